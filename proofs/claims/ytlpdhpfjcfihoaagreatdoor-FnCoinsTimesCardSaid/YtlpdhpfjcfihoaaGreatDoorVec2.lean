/-
  Contracts of bigall's vector loops at any offset, in place or not: mulAddVWW, addMulVVWW, addVV, subVV.
-/
import Derived.Test.YtlpdhpfjcfihoaaGreatDoorGA
import Derived.Test.YtlpdhpfjcfihoaaGreatDoorMulW
namespace Go.Proofs.YtlpdhpfjcfihoaaGreatDoor
open Go Go.RowKit

theorem mulStep (P D x y c k r : Nat) (h : D + c * B64 ^ k = P * y + r) : D + B64 ^ k * ((x * y + c) % B64) + (x * y + c) / B64 * B64 ^ (k + 1) = (P + B64 ^ k * x) * y + r := by
  have e : B64 * ((x * y + c) / B64) + (x * y + c) % B64 = x * y + c := Nat.div_add_mod _ _
  have e2 : (x * y + c) / B64 * B64 ^ (k + 1) = B64 ^ k * (B64 * ((x * y + c) / B64)) := by rw [Nat.pow_succ]; ac_rfl
  have e3 : B64 ^ k * (B64 * ((x * y + c) / B64)) + B64 ^ k * ((x * y + c) % B64) = B64 ^ k * (x * y + c) := by rw [← Nat.mul_add, e]
  have e4 : B64 ^ k * (x * y + c) = B64 ^ k * x * y + c * B64 ^ k := by rw [Nat.mul_add, Nat.mul_comm c, Nat.mul_assoc]
  have e5 : (P + B64 ^ k * x) * y = P * y + B64 ^ k * x * y := Nat.add_mul _ _ _
  omega
theorem addMulStep (P Q D x z m c k a : Nat) (h : D + c * B64 ^ k = P + Q * m + a) : D + B64 ^ k * ((x * m + z + c) % B64) + (x * m + z + c) / B64 * B64 ^ (k + 1) = P + B64 ^ k * z + (Q + B64 ^ k * x) * m + a := by
  have e : B64 * ((x * m + z + c) / B64) + (x * m + z + c) % B64 = x * m + z + c := Nat.div_add_mod _ _
  have e2 : (x * m + z + c) / B64 * B64 ^ (k + 1) = B64 ^ k * (B64 * ((x * m + z + c) / B64)) := by rw [Nat.pow_succ]; ac_rfl
  have e3 : B64 ^ k * (B64 * ((x * m + z + c) / B64)) + B64 ^ k * ((x * m + z + c) % B64) = B64 ^ k * (x * m + z + c) := by rw [← Nat.mul_add, e]
  have e4 : B64 ^ k * (x * m + z + c) = B64 ^ k * x * m + B64 ^ k * z + c * B64 ^ k := by rw [Nat.mul_add, Nat.mul_add, Nat.mul_comm c, Nat.mul_assoc]
  have e5 : (Q + B64 ^ k * x) * m = Q * m + B64 ^ k * x * m := Nat.add_mul _ _ _
  omega
theorem addMul_hi (x y z c : Nat) (hx : x < B64) (hy : y < B64) (hz : z < B64) (hc : c < B64) : ((x * y + z) % B64 + c) / B64 + (x * y + z) / B64 = (x * y + z + c) / B64 ∧ ((x * y + z) % B64 + c) % B64 = (x * y + z + c) % B64 ∧ (x * y + z + c) / B64 < B64 := by
  have h1 : x * y ≤ (B64 - 1) * (B64 - 1) := Nat.mul_le_mul (by omega) (by omega)
  obtain ⟨p, hp⟩ : ∃ p, p = x * y := ⟨_, rfl⟩
  rw [← hp] at h1 ⊢
  unfold B64 at *
  omega
theorem lt_of_get {xs : List Nat} (h : ∀ x ∈ xs, x < B64) (k : Nat) (hk : k < xs.length) : xs[k] < B64 := h _ (List.getElem_mem _)
theorem lt_snoc {ds : List Nat} {d : Nat} (h : ∀ x ∈ ds, x < B64) (hd : d < B64) : ∀ x ∈ ds ++ [d], x < B64 := by
  intro x hx
  rcases List.mem_append.1 hx with hx | hx
  · exact h x hx
  · simp at hx; subst hx; exact hd
theorem take_all {xs : List Nat} {n : Nat} (h : xs.length = n) : xs.take n = xs := List.take_of_length_le (by omega)

set_option maxRecDepth 100000 in
theorem vMulAddVWWg (g o cz bx ox cx y r : Nat) (ws xs : List Nat) (n : Nat) (w : World) (hn : n ≤ 1000000) (hb : WB w g ws) (ho : o + n ≤ ws.length) (hx : Src w g o bx ox xs) (hxl : xs.length = n) (hy : y < B64) (hr : r < B64) :
    Calls Tryz.prog 297 #[.slice (some ⟨g, o, none⟩) n cz, .slice (some ⟨bx, ox, none⟩) n cx, .int .u64 y, .int .u64 r] w (RetV g ws o n (fun ds c => natOf ds + c * B64 ^ n = natOf xs * y + r) w) := by
  have HX := Lib.hid hx; have HB := Lib.hid hb; have HXL := Lib.hid hxl
  clear hx hb hxl
  go_enter Tryz.func297, Tryz.ntmps297
  go_wp2
  go_loopw [8, 19] (fun c i wr => ∃ (k : Nat) (ds : List Nat) (cc : Nat), k ≤ n ∧ i = .int .i64 k ∧ c = .int .u64 (cc : Int) ∧ cc < B64 ∧ ds.length = k ∧ (∀ d ∈ ds, d < B64) ∧ natOf ds + cc * B64 ^ k = natOf (xs.take k) * y + r ∧ WB wr g (over ws o ds) ∧ Only g w wr)
    (fun _ i _ => n - (intOf i).toNat)
  case atStart => exact ⟨0, [], _, Nat.zero_le _, rfl, rfl, hr, rfl, by simp, by simp [natOf], by rw [over_nil]; exact HB.out, Only.refl _ _⟩
  case round =>
    obtain ⟨k, ds, cc, hk, rfl, rfl, hcc, hdl, hdb, hsum, hblk, honly⟩ := hrel
    have HD := Lib.hid hdl; have HDB := Lib.hid hdb; have HS := Lib.hid hsum; have HBK := Lib.hid hblk; have HO := Lib.hid honly
    clear hdl hdb hsum hblk honly
    by_cases hlt : k < n
    · have hkx : k < xs.length := by rw [HXL.out]; exact hlt
      obtain ⟨xk, hxk⟩ : ∃ xk, xk = xs[k] := ⟨_, rfl⟩
      have cx' : wr.cell? ⟨bx, ox + k, none⟩ = some (.int .u64 (xk : Int)) := by rw [hxk]; exact HX.out.read HB.out HO.out HBK.out (by rw [HD.out]; omega) k (by rw [HD.out]; exact Nat.le_refl _) hkx
      have HXK := Lib.hid hxk; have hxk2 : xk < B64 := by rw [hxk]; exact lt_of_get HX.out.1 k hkx
      clear hxk
      obtain ⟨old, hold⟩ : ∃ old, wr.cell? ⟨g, o + k, none⟩ = some old := ⟨_, HBK.out.cell (o + k) _ (List.getElem?_eq_getElem (by rw [over_length (by rw [HD.out]; omega)]; omega))⟩
      have hfz : wr.frozen? ⟨g, o + k, none⟩ = false := HBK.out.frozen (o + k)
      have HC := Lib.hid (gMulAddWWW xk y cc hxk2 hy hcc wr)
      have HM := Lib.hid (mul_hi xk y cc hxk2 hy hcc).2.2
      obtain ⟨d, hd⟩ : ∃ d, d = (xk * y + cc) % B64 := ⟨_, rfl⟩
      obtain ⟨c', hc'⟩ : ∃ c', c' = (xk * y + cc) / B64 := ⟨_, rfl⟩
      rw [← hd, ← hc'] at HC
      rw [← hc'] at HM
      have HDD := Lib.hid hd; have HCC := Lib.hid hc'; clear hd hc'
      go_wp2_with (go_at_call 304; refine HC.out.mono ?_; rintro e w' ⟨rfl, rfl⟩)
      go_roundw
      case rel =>
        have hd : d < B64 := by rw [HDD.out]; exact Nat.mod_lt _ B64_pos
        refine ⟨k + 1, ds ++ [d], c', by omega, by go_num, rfl, HM.out, by simp [HD.out], lt_snoc HDB.out hd, ?_, ?_, HO.out.set_ _ _⟩
        · rw [natOf_snoc, HD.out, natOf_take_succ xs _ hkx, ← HXK.out, HDD.out, HCC.out]
          exact mulStep _ _ _ _ _ _ _ HS.out
        · have := HBK.out.set_ (o + k) d hd
          rw [← HD.out] at this ⊢
          rwa [over_snoc d (by rw [HD.out]; omega)] at this
      case measure => simp [intOf]; omega
    · obtain rfl : k = n := by omega
      go_wp2
      go_ret
      exact ⟨ds, cc, rfl, hcc, HD.out, HDB.out, by have h := HS.out; rwa [take_all HXL.out] at h, HBK.out, HO.out⟩
set_option maxRecDepth 100000 in
theorem vMulAddVWW (g o cz bx ox cx y r : Nat) (ws xs : List Nat) (n : Nat) (w : World) (hn : n ≤ 1000000) (hb : WB w g ws) (ho : o + n ≤ ws.length) (hx : Src w g o bx ox xs) (hxl : xs.length = n) (hy : y < B64) (hr : r < B64) :
    Calls Tryz.prog 279 #[.slice (some ⟨g, o, none⟩) n cz, .slice (some ⟨bx, ox, none⟩) n cx, .int .u64 y, .int .u64 r] w (RetV g ws o n (fun ds c => natOf ds + c * B64 ^ n = natOf xs * y + r) w) := by
  have H := Lib.hid (vMulAddVWWg g o cz bx ox cx y r ws xs n w hn hb ho hx hxl hy hr)
  clear hb ho hx hxl hy hr
  go_enter Tryz.func279, Tryz.ntmps279
  go_wp2_with (go_at_call 297; refine H.out.mono ?_; rintro e w' ⟨ds, c, rfl, hr⟩; have HR := Lib.hid hr; clear hr)
  go_ret
  exact ⟨ds, c, rfl, HR.out⟩
set_option maxRecDepth 100000 in
theorem vAddMulVVWWg (g o cz bx ox cx by_ oy cy m a : Nat) (ws xs ys : List Nat) (n : Nat) (w : World) (hn : n ≤ 1000000) (hb : WB w g ws) (ho : o + n ≤ ws.length) (hx : Src w g o bx ox xs) (hxl : xs.length = n) (hy : Src w g o by_ oy ys) (hyl : ys.length = n) (hm : m < B64) (ha : a < B64) :
    Calls Tryz.prog 299 #[.slice (some ⟨g, o, none⟩) n cz, .slice (some ⟨bx, ox, none⟩) n cx, .slice (some ⟨by_, oy, none⟩) n cy, .int .u64 m, .int .u64 a] w (RetV g ws o n (fun ds c => natOf ds + c * B64 ^ n = natOf xs + natOf ys * m + a) w) := by
  have HY := Lib.hid hy; have HYL := Lib.hid hyl
  clear hy hyl
  have HX := Lib.hid hx; have HB := Lib.hid hb; have HXL := Lib.hid hxl
  clear hx hb hxl
  go_enter Tryz.func299, Tryz.ntmps299
  go_wp2
  go_loopw [10, 32] (fun c i wr => ∃ (k : Nat) (ds : List Nat) (cc : Nat), k ≤ n ∧ i = .int .i64 k ∧ c = .int .u64 (cc : Int) ∧ cc < B64 ∧ ds.length = k ∧ (∀ d ∈ ds, d < B64) ∧ natOf ds + cc * B64 ^ k = natOf (xs.take k) + natOf (ys.take k) * m + a ∧ WB wr g (over ws o ds) ∧ Only g w wr)
    (fun _ i _ => n - (intOf i).toNat)
  case atStart => exact ⟨0, [], _, Nat.zero_le _, rfl, rfl, ha, rfl, by simp, by simp [natOf], by rw [over_nil]; exact HB.out, Only.refl _ _⟩
  case round =>
    obtain ⟨k, ds, cc, hk, rfl, rfl, hcc, hdl, hdb, hsum, hblk, honly⟩ := hrel
    have HD := Lib.hid hdl; have HDB := Lib.hid hdb; have HS := Lib.hid hsum; have HBK := Lib.hid hblk; have HO := Lib.hid honly
    clear hdl hdb hsum hblk honly
    by_cases hlt : k < n
    · have hkx : k < xs.length := by rw [HXL.out]; exact hlt
      have hky : k < ys.length := by rw [HYL.out]; exact hlt
      obtain ⟨xk, hxk⟩ : ∃ xk, xk = xs[k] := ⟨_, rfl⟩
      obtain ⟨yk, hyk⟩ : ∃ yk, yk = ys[k] := ⟨_, rfl⟩
      have cx' : wr.cell? ⟨bx, ox + k, none⟩ = some (.int .u64 (xk : Int)) := by rw [hxk]; exact HX.out.read HB.out HO.out HBK.out (by rw [HD.out]; omega) k (by rw [HD.out]; exact Nat.le_refl _) hkx
      have cy' : wr.cell? ⟨by_, oy + k, none⟩ = some (.int .u64 (yk : Int)) := by rw [hyk]; exact HY.out.read HB.out HO.out HBK.out (by rw [HD.out]; omega) k (by rw [HD.out]; exact Nat.le_refl _) hky
      have HXK := Lib.hid hxk; have hxk2 : xk < B64 := by rw [hxk]; exact lt_of_get HX.out.1 k hkx
      have HYK := Lib.hid hyk; have hyk2 : yk < B64 := by rw [hyk]; exact lt_of_get HY.out.1 k hky
      clear hxk hyk
      obtain ⟨old, hold⟩ : ∃ old, wr.cell? ⟨g, o + k, none⟩ = some old := ⟨_, HBK.out.cell (o + k) _ (List.getElem?_eq_getElem (by rw [over_length (by rw [HD.out]; omega)]; omega))⟩
      have hfz : wr.frozen? ⟨g, o + k, none⟩ = false := HBK.out.frozen (o + k)
      have HC := Lib.hid (fun W => gMulAddWWW yk m xk hyk2 hm hxk2 W)
      have HM := Lib.hid (addMul_hi yk m xk cc hyk2 hm hxk2 hcc)
      obtain ⟨p, hp⟩ : ∃ p, p = (yk * m + xk) % B64 := ⟨_, rfl⟩
      obtain ⟨q, hq⟩ : ∃ q, q = (yk * m + xk) / B64 := ⟨_, rfl⟩
      rw [← hp, ← hq] at HM HC
      have HA := Lib.hid (fun W => bitsAdd p cc 0 (by omega) W)
      rw [Nat.add_zero] at HA
      obtain ⟨u, hu⟩ : ∃ u, u = (p + cc) / B64 := ⟨_, rfl⟩
      obtain ⟨d, hd⟩ : ∃ d, d = (yk * m + xk + cc) % B64 := ⟨_, rfl⟩
      obtain ⟨c', hc'⟩ : ∃ c', c' = (yk * m + xk + cc) / B64 := ⟨_, rfl⟩
      rw [← hu, ← hd, ← hc'] at HM
      rw [← hu, HM.out.2.1] at HA
      have HU := Lib.hid (show u + q = c' ∧ c' < B64 from ⟨HM.out.1, HM.out.2.2⟩)
      have hu1 : (u : Int) + (q : Int) ≤ 18446744073709551615 := by have := HU.out; unfold B64 at this; omega
      have HDD := Lib.hid hd; have HCC := Lib.hid hc'; clear hd hc' hp hq hu HM
      go_wp2
      go_quiet ((go_at_call 304; exact Calls.quiet_of_same (HC.out _)))
      go_wp2_with (go_at_call 254; refine (HA.out _).mono ?_; rintro e w' ⟨rfl, rfl⟩)
      go_roundw
      case rel =>
        have hd : d < B64 := by rw [HDD.out]; exact Nat.mod_lt _ B64_pos
        refine ⟨k + 1, ds ++ [d], c', by omega, by go_num, by rw [← HU.out.1]; rfl, HU.out.2, by simp [HD.out], lt_snoc HDB.out hd, ?_, ?_, (HO.out.drewN nq).set_ _ _⟩
        · rw [natOf_snoc, HD.out, natOf_take_succ xs _ hkx, natOf_take_succ ys _ hky, ← HXK.out, ← HYK.out, HDD.out, HCC.out]
          exact addMulStep _ _ _ _ _ _ _ _ _ HS.out
        · have := (HBK.out.drewN nq).set_ (o + k) d hd
          rw [← HD.out] at this ⊢
          rwa [over_snoc d (by rw [HD.out]; omega)] at this
      case measure => simp [intOf]; omega
    · obtain rfl : k = n := by omega
      go_wp2
      go_ret
      exact ⟨ds, cc, rfl, hcc, HD.out, HDB.out, by have h := HS.out; rwa [take_all HXL.out, take_all HYL.out] at h, HBK.out, HO.out⟩
set_option maxRecDepth 100000 in
theorem vAddMulVVWW (g o cz bx ox cx by_ oy cy m a : Nat) (ws xs ys : List Nat) (n : Nat) (w : World) (hn : n ≤ 1000000) (hb : WB w g ws) (ho : o + n ≤ ws.length) (hx : Src w g o bx ox xs) (hxl : xs.length = n) (hy : Src w g o by_ oy ys) (hyl : ys.length = n) (hm : m < B64) (ha : a < B64) :
    Calls Tryz.prog 286 #[.slice (some ⟨g, o, none⟩) n cz, .slice (some ⟨bx, ox, none⟩) n cx, .slice (some ⟨by_, oy, none⟩) n cy, .int .u64 m, .int .u64 a] w (RetV g ws o n (fun ds c => natOf ds + c * B64 ^ n = natOf xs + natOf ys * m + a) w) := by
  have H := Lib.hid (vAddMulVVWWg g o cz bx ox cx by_ oy cy m a ws xs ys n w hn hb ho hx hxl hy hyl hm ha)
  clear hb ho hx hxl hy hyl hm ha
  go_enter Tryz.func286, Tryz.ntmps286
  go_wp2_with (go_at_call 299; refine H.out.mono ?_; rintro e w' ⟨ds, c, rfl, hr⟩; have HR := Lib.hid hr; clear hr)
  go_ret
  exact ⟨ds, c, rfl, HR.out⟩
set_option maxRecDepth 100000 in
theorem vAddVVg (g o cz bx ox cx by_ oy cy : Nat) (ws xs ys : List Nat) (n : Nat) (w : World) (hn : n ≤ 1000000) (hb : WB w g ws) (ho : o + n ≤ ws.length) (hx : Src w g o bx ox xs) (hxl : xs.length = n) (hy : Src w g o by_ oy ys) (hyl : ys.length = n) :
    Calls Tryz.prog 253 #[.slice (some ⟨g, o, none⟩) n cz, .slice (some ⟨bx, ox, none⟩) n cx, .slice (some ⟨by_, oy, none⟩) n cy] w (RetV g ws o n (fun ds c => c ≤ 1 ∧ natOf ds + c * B64 ^ n = natOf xs + natOf ys) w) := by
  have HY := Lib.hid hy; have HYL := Lib.hid hyl
  clear hy hyl
  have HX := Lib.hid hx; have HB := Lib.hid hb; have HXL := Lib.hid hxl
  clear hx hb hxl
  go_enter Tryz.func253, Tryz.ntmps253
  go_wp2
  go_loopw [6, 25] (fun c i wr => ∃ (k : Nat) (ds : List Nat) (cc : Nat), k ≤ n ∧ i = .int .i64 k ∧ c = .int .u64 (cc : Int) ∧ cc ≤ 1 ∧ ds.length = k ∧ (∀ d ∈ ds, d < B64) ∧ natOf ds + cc * B64 ^ k = natOf (xs.take k) + natOf (ys.take k) ∧ WB wr g (over ws o ds) ∧ Only g w wr)
    (fun _ i _ => n - (intOf i).toNat)
  case atStart => exact ⟨0, [], 0, Nat.zero_le _, rfl, rfl, Nat.zero_le _, rfl, by simp, by simp [natOf], by rw [over_nil]; exact HB.out, Only.refl _ _⟩
  case round =>
    obtain ⟨k, ds, cc, hk, rfl, rfl, hcc, hdl, hdb, hsum, hblk, honly⟩ := hrel
    have HD := Lib.hid hdl; have HDB := Lib.hid hdb; have HS := Lib.hid hsum; have HBK := Lib.hid hblk; have HO := Lib.hid honly
    clear hdl hdb hsum hblk honly
    by_cases hlt : k < n
    · have hkx : k < xs.length := by rw [HXL.out]; exact hlt
      have hky : k < ys.length := by rw [HYL.out]; exact hlt
      obtain ⟨xk, hxk⟩ : ∃ xk, xk = xs[k] := ⟨_, rfl⟩
      obtain ⟨yk, hyk⟩ : ∃ yk, yk = ys[k] := ⟨_, rfl⟩
      have cx' : wr.cell? ⟨bx, ox + k, none⟩ = some (.int .u64 (xk : Int)) := by rw [hxk]; exact HX.out.read HB.out HO.out HBK.out (by rw [HD.out]; omega) k (by rw [HD.out]; exact Nat.le_refl _) hkx
      have cy' : wr.cell? ⟨by_, oy + k, none⟩ = some (.int .u64 (yk : Int)) := by rw [hyk]; exact HY.out.read HB.out HO.out HBK.out (by rw [HD.out]; omega) k (by rw [HD.out]; exact Nat.le_refl _) hky
      have HXK := Lib.hid hxk; have hxk2 : xk < B64 := by rw [hxk]; exact lt_of_get HX.out.1 k hkx
      have HYK := Lib.hid hyk; have hyk2 : yk < B64 := by rw [hyk]; exact lt_of_get HY.out.1 k hky
      clear hxk hyk
      obtain ⟨old, hold⟩ : ∃ old, wr.cell? ⟨g, o + k, none⟩ = some old := ⟨_, HBK.out.cell (o + k) _ (List.getElem?_eq_getElem (by rw [over_length (by rw [HD.out]; omega)]; omega))⟩
      have hfz : wr.frozen? ⟨g, o + k, none⟩ = false := HBK.out.frozen (o + k)
      have HC := Lib.hid (fun W => bitsAdd xk yk cc hcc W)
      obtain ⟨d, hd⟩ : ∃ d, d = (xk + yk + cc) % B64 := ⟨_, rfl⟩
      obtain ⟨c', hc'⟩ : ∃ c' : Nat, c' = (xk + yk + cc) / B64 := ⟨_, rfl⟩
      rw [← hd, ← hc'] at HC
      have HDD := Lib.hid hd; have HCC := Lib.hid hc'; clear hd hc'
      go_wp2
      go_quiet ((go_at_call 254; exact Calls.quiet_of_same (HC.out _)))
      go_wp2
      go_roundw
      case rel =>
        have hd : d < B64 := by rw [HDD.out]; exact Nat.mod_lt _ B64_pos
        refine ⟨k + 1, ds ++ [d], c', by omega, by go_num, rfl, ?_, by simp [HD.out], lt_snoc HDB.out hd, ?_, ?_, (HO.out.drewN nq).set_ _ _⟩
        · rw [HCC.out]; exact carry_le _ _ _ hxk2 hyk2 hcc
        · rw [natOf_snoc, HD.out, natOf_take_succ xs _ hkx, natOf_take_succ ys _ hky, ← HXK.out, ← HYK.out, HDD.out, HCC.out]
          exact addStep _ _ _ _ _ _ _ HS.out
        · have := (HBK.out.drewN nq).set_ (o + k) d hd
          rw [← HD.out] at this ⊢
          rwa [over_snoc d (by rw [HD.out]; omega)] at this
      case measure => simp [intOf]; omega
    · obtain rfl : k = n := by omega
      go_wp2
      go_ret
      exact ⟨ds, cc, rfl, by unfold B64; omega, HD.out, HDB.out, ⟨hcc, by have h := HS.out; rwa [take_all HXL.out, take_all HYL.out] at h⟩, HBK.out, HO.out⟩
set_option maxRecDepth 100000 in
theorem vAddVV (g o cz bx ox cx by_ oy cy : Nat) (ws xs ys : List Nat) (n : Nat) (w : World) (hn : n ≤ 1000000) (hb : WB w g ws) (ho : o + n ≤ ws.length) (hx : Src w g o bx ox xs) (hxl : xs.length = n) (hy : Src w g o by_ oy ys) (hyl : ys.length = n) :
    Calls Tryz.prog 210 #[.slice (some ⟨g, o, none⟩) n cz, .slice (some ⟨bx, ox, none⟩) n cx, .slice (some ⟨by_, oy, none⟩) n cy] w (RetV g ws o n (fun ds c => c ≤ 1 ∧ natOf ds + c * B64 ^ n = natOf xs + natOf ys) w) := by
  have H := Lib.hid (vAddVVg g o cz bx ox cx by_ oy cy ws xs ys n w hn hb ho hx hxl hy hyl)
  clear hb ho hx hxl hy hyl
  go_enter Tryz.func210, Tryz.ntmps210
  go_wp2_with (go_at_call 253; refine H.out.mono ?_; rintro e w' ⟨ds, c, rfl, hr⟩; have HR := Lib.hid hr; clear hr)
  go_ret
  exact ⟨ds, c, rfl, HR.out⟩
set_option maxRecDepth 100000 in
theorem vSubVVg (g o cz bx ox cx by_ oy cy : Nat) (ws xs ys : List Nat) (n : Nat) (w : World) (hn : n ≤ 1000000) (hb : WB w g ws) (ho : o + n ≤ ws.length) (hx : Src w g o bx ox xs) (hxl : xs.length = n) (hy : Src w g o by_ oy ys) (hyl : ys.length = n) :
    Calls Tryz.prog 255 #[.slice (some ⟨g, o, none⟩) n cz, .slice (some ⟨bx, ox, none⟩) n cx, .slice (some ⟨by_, oy, none⟩) n cy] w (RetV g ws o n (fun ds c => c ≤ 1 ∧ natOf ds + natOf ys = natOf xs + c * B64 ^ n) w) := by
  have HY := Lib.hid hy; have HYL := Lib.hid hyl
  clear hy hyl
  have HX := Lib.hid hx; have HB := Lib.hid hb; have HXL := Lib.hid hxl
  clear hx hb hxl
  go_enter Tryz.func255, Tryz.ntmps255
  go_wp2
  go_loopw [6, 25] (fun c i wr => ∃ (k : Nat) (ds : List Nat) (cc : Nat), k ≤ n ∧ i = .int .i64 k ∧ c = .int .u64 (cc : Int) ∧ cc ≤ 1 ∧ ds.length = k ∧ (∀ d ∈ ds, d < B64) ∧ natOf ds + natOf (ys.take k) = natOf (xs.take k) + cc * B64 ^ k ∧ WB wr g (over ws o ds) ∧ Only g w wr)
    (fun _ i _ => n - (intOf i).toNat)
  case atStart => exact ⟨0, [], 0, Nat.zero_le _, rfl, rfl, Nat.zero_le _, rfl, by simp, by simp [natOf], by rw [over_nil]; exact HB.out, Only.refl _ _⟩
  case round =>
    obtain ⟨k, ds, cc, hk, rfl, rfl, hcc, hdl, hdb, hsum, hblk, honly⟩ := hrel
    have HD := Lib.hid hdl; have HDB := Lib.hid hdb; have HS := Lib.hid hsum; have HBK := Lib.hid hblk; have HO := Lib.hid honly
    clear hdl hdb hsum hblk honly
    by_cases hlt : k < n
    · have hkx : k < xs.length := by rw [HXL.out]; exact hlt
      have hky : k < ys.length := by rw [HYL.out]; exact hlt
      obtain ⟨xk, hxk⟩ : ∃ xk, xk = xs[k] := ⟨_, rfl⟩
      obtain ⟨yk, hyk⟩ : ∃ yk, yk = ys[k] := ⟨_, rfl⟩
      have cx' : wr.cell? ⟨bx, ox + k, none⟩ = some (.int .u64 (xk : Int)) := by rw [hxk]; exact HX.out.read HB.out HO.out HBK.out (by rw [HD.out]; omega) k (by rw [HD.out]; exact Nat.le_refl _) hkx
      have cy' : wr.cell? ⟨by_, oy + k, none⟩ = some (.int .u64 (yk : Int)) := by rw [hyk]; exact HY.out.read HB.out HO.out HBK.out (by rw [HD.out]; omega) k (by rw [HD.out]; exact Nat.le_refl _) hky
      have HXK := Lib.hid hxk; have hxk2 : xk < B64 := by rw [hxk]; exact lt_of_get HX.out.1 k hkx
      have HYK := Lib.hid hyk; have hyk2 : yk < B64 := by rw [hyk]; exact lt_of_get HY.out.1 k hky
      clear hxk hyk
      obtain ⟨old, hold⟩ : ∃ old, wr.cell? ⟨g, o + k, none⟩ = some old := ⟨_, HBK.out.cell (o + k) _ (List.getElem?_eq_getElem (by rw [over_length (by rw [HD.out]; omega)]; omega))⟩
      have hfz : wr.frozen? ⟨g, o + k, none⟩ = false := HBK.out.frozen (o + k)
      have HC := Lib.hid (fun W => bitsSub xk yk cc hcc W)
      obtain ⟨d, hd⟩ : ∃ d, d = (xk + B64 - yk - cc) % B64 := ⟨_, rfl⟩
      obtain ⟨c', hc'⟩ : ∃ c' : Nat, c' = (if xk < yk + cc then 1 else 0) := ⟨_, rfl⟩
      rw [← hd, ← hc'] at HC
      have HDD := Lib.hid hd; have HCC := Lib.hid hc'; clear hd hc'
      go_wp2
      go_quiet ((go_at_call 256; exact Calls.quiet_of_same (HC.out _)))
      go_wp2
      go_roundw
      case rel =>
        have hd : d < B64 := by rw [HDD.out]; exact Nat.mod_lt _ B64_pos
        refine ⟨k + 1, ds ++ [d], c', by omega, by go_num, rfl, ?_, by simp [HD.out], lt_snoc HDB.out hd, ?_, ?_, (HO.out.drewN nq).set_ _ _⟩
        · rw [HCC.out]; exact by split <;> omega
        · rw [natOf_snoc, HD.out, natOf_take_succ xs _ hkx, natOf_take_succ ys _ hky, ← HXK.out, ← HYK.out, HDD.out, HCC.out]
          exact subStep _ _ _ _ _ _ _ hcc hxk2 hyk2 HS.out
        · have := (HBK.out.drewN nq).set_ (o + k) d hd
          rw [← HD.out] at this ⊢
          rwa [over_snoc d (by rw [HD.out]; omega)] at this
      case measure => simp [intOf]; omega
    · obtain rfl : k = n := by omega
      go_wp2
      go_ret
      exact ⟨ds, cc, rfl, by unfold B64; omega, HD.out, HDB.out, ⟨hcc, by have h := HS.out; rwa [take_all HXL.out, take_all HYL.out] at h⟩, HBK.out, HO.out⟩
set_option maxRecDepth 100000 in
theorem vSubVV (g o cz bx ox cx by_ oy cy : Nat) (ws xs ys : List Nat) (n : Nat) (w : World) (hn : n ≤ 1000000) (hb : WB w g ws) (ho : o + n ≤ ws.length) (hx : Src w g o bx ox xs) (hxl : xs.length = n) (hy : Src w g o by_ oy ys) (hyl : ys.length = n) :
    Calls Tryz.prog 213 #[.slice (some ⟨g, o, none⟩) n cz, .slice (some ⟨bx, ox, none⟩) n cx, .slice (some ⟨by_, oy, none⟩) n cy] w (RetV g ws o n (fun ds c => c ≤ 1 ∧ natOf ds + natOf ys = natOf xs + c * B64 ^ n) w) := by
  have H := Lib.hid (vSubVVg g o cz bx ox cx by_ oy cy ws xs ys n w hn hb ho hx hxl hy hyl)
  clear hb ho hx hxl hy hyl
  go_enter Tryz.func213, Tryz.ntmps213
  go_wp2_with (go_at_call 255; refine H.out.mono ?_; rintro e w' ⟨ds, c, rfl, hr⟩; have HR := Lib.hid hr; clear hr)
  go_ret
  exact ⟨ds, c, rfl, HR.out⟩
end Go.Proofs.YtlpdhpfjcfihoaaGreatDoor
