/-
  Contracts of bigall's vector loops: addVV, subVV.
-/
import Derived.Test.YtagfbefgcijegaaGreatDoorBigB
import Derived.Deep.QuietTactic
import Derived.BigQuiet
namespace Go.Proofs.YtagfbefgcijegaaGreatDoor
open Go Go.RowKit

/-- What a vector operation leaves: the first words of block g are ds, with a carry c; nothing else has turned. -/
def RetVec (g : Nat) (E : TypeId) (cs : List Value) (n : Nat) (R : List Nat → Nat → Prop) (w : World) (e : Ending) (w' : World) : Prop :=
  ∃ ds c, e = .returned (wv c) ∧ c ≤ 1 ∧ ds.length = n ∧ (∀ d ∈ ds, d < B64) ∧ R ds c ∧ Blk w' g E (putw cs ds) ∧ Only g w w'

theorem addStep (P Q D x y c k : Nat) (h : D + c * B64 ^ k = P + Q) : D + B64 ^ k * ((x + y + c) % B64) + (x + y + c) / B64 * B64 ^ (k + 1) = P + B64 ^ k * x + (Q + B64 ^ k * y) := by
  have e : B64 * ((x + y + c) / B64) + (x + y + c) % B64 = x + y + c := Nat.div_add_mod _ _
  have e2 : (x + y + c) / B64 * B64 ^ (k + 1) = B64 ^ k * (B64 * ((x + y + c) / B64)) := by rw [Nat.pow_succ]; ac_rfl
  have e3 : B64 ^ k * (B64 * ((x + y + c) / B64)) + B64 ^ k * ((x + y + c) % B64) = B64 ^ k * (x + y + c) := by rw [← Nat.mul_add, e]
  have e4 : B64 ^ k * (x + y + c) = B64 ^ k * x + B64 ^ k * y + c * B64 ^ k := by rw [Nat.mul_add, Nat.mul_add, Nat.mul_comm c]
  omega
theorem carry_le (x y c : Nat) (hx : x < B64) (hy : y < B64) (hc : c ≤ 1) : (x + y + c) / B64 ≤ 1 := by
  unfold B64 at *; omega

set_option maxRecDepth 100000 in
theorem addVVg (g cz bx ox cx by_ oy cy : Nat) (E : TypeId) (cs : List Value) (xs ys : List Nat) (n : Nat) (w : World) (hn : n ≤ 1000000)
    (hb : Blk w g E cs) (hcs : n ≤ cs.length) (hxl : xs.length = n) (hyl : ys.length = n) (hxb : ∀ x ∈ xs, x < B64) (hyb : ∀ y ∈ ys, y < B64) (hbx : bx ≠ g) (hby : by_ ≠ g)
    (hx : ∀ j (h : j < xs.length), w.cell? ⟨bx, ox + j, none⟩ = some (.int .u64 (xs[j] : Int))) (hy : ∀ j (h : j < ys.length), w.cell? ⟨by_, oy + j, none⟩ = some (.int .u64 (ys[j] : Int))) :
    Calls Tryz.prog 218 #[.slice (some ⟨g, 0, none⟩) n cz, .slice (some ⟨bx, ox, none⟩) n cx, .slice (some ⟨by_, oy, none⟩) n cy] w
      (RetVec g E cs n (fun ds c => natOf ds + c * B64 ^ n = natOf xs + natOf ys) w) := by
  have HX := Lib.hid hx; have HY := Lib.hid hy; have HB := Lib.hid hb; have HXL := Lib.hid hxl; have HYL := Lib.hid hyl; have HXB := Lib.hid hxb; have HYB := Lib.hid hyb
  clear hx hy hb hxl hyl hxb hyb
  go_enter Tryz.func218, Tryz.ntmps218
  go_wp2
  go_loopw [6, 25] (fun c i wr => ∃ (k : Nat) (ds : List Nat) (cc : Nat), k ≤ n ∧ i = .int .i64 k ∧ c = .int .u64 (cc : Int) ∧ cc ≤ 1 ∧ ds.length = k ∧ (∀ d ∈ ds, d < B64) ∧ natOf ds + cc * B64 ^ k = natOf (xs.take k) + natOf (ys.take k) ∧ Blk wr g E (putw cs ds) ∧ Only g w wr)
    (fun _ i _ => n - (intOf i).toNat)
  case atStart => exact ⟨0, [], 0, Nat.zero_le _, rfl, rfl, Nat.zero_le _, rfl, by simp, by simp [natOf], HB.out, Only.refl _ _⟩
  case round =>
    obtain ⟨k, ds, cc, hk, rfl, rfl, hcc, hdl, hdb, hsum, hblk, honly⟩ := hrel
    have HD := Lib.hid hdl; have HDB := Lib.hid hdb; have HS := Lib.hid hsum; have HBK := Lib.hid hblk; have HO := Lib.hid honly
    clear hdl hdb hsum hblk honly
    by_cases hlt : k < n
    · have hkx : k < xs.length := by rw [HXL.out]; exact hlt
      have hky : k < ys.length := by rw [HYL.out]; exact hlt
      obtain ⟨xk, hxk⟩ : ∃ xk, xk = xs[k] := ⟨_, rfl⟩
      obtain ⟨yk, hyk⟩ : ∃ yk, yk = ys[k] := ⟨_, rfl⟩
      have cx' : wr.cell? ⟨bx, ox + k, none⟩ = some (.int .u64 (xk : Int)) := by rw [hxk]; exact HO.out.cell (HX.out k hkx) hbx
      have cy' : wr.cell? ⟨by_, oy + k, none⟩ = some (.int .u64 (yk : Int)) := by rw [hyk]; exact HO.out.cell (HY.out k hky) hby
      have HXK := Lib.hid hxk; have HYK := Lib.hid hyk
      clear hxk hyk
      obtain ⟨old, hold⟩ : ∃ old, wr.cell? ⟨g, k, none⟩ = some old := ⟨_, (HBK.out.cell k).trans (List.getElem?_eq_getElem (by rw [putw_length _ _ (by rw [HD.out]; omega)]; omega))⟩
      have hfz : wr.frozen? ⟨g, k, none⟩ = false := HBK.out.frozen k
      go_wp2
      go_quiet ((go_at_call 219; exact Calls.quiet_of_same (bitsAdd _ _ _ hcc _)))
      go_wp2
      go_roundw
      case rel =>
        refine ⟨k + 1, ds ++ [(xk + yk + cc) % B64], (xk + yk + cc) / B64, by omega, by go_num, rfl, ?_, by simp [HD.out], ?_, ?_, ?_, ?_⟩
        · exact carry_le _ _ _ (by rw [HXK.out]; exact HXB.out _ (List.getElem_mem _)) (by rw [HYK.out]; exact HYB.out _ (List.getElem_mem _)) hcc
        · intro d hd
          rcases List.mem_append.1 hd with h | h
          · exact HDB.out d h
          · simp at h; subst h; exact Nat.mod_lt _ B64_pos
        · rw [natOf_snoc, HD.out, natOf_take_succ xs _ hkx, natOf_take_succ ys _ hky, ← HXK.out, ← HYK.out]
          exact addStep _ _ _ _ _ _ _ HS.out
        · have := (HBK.out.drewN nq).set_ k (wv ((xk + yk + cc) % B64))
          rw [← putw_set _ _ _ (by rw [HD.out]; omega), HD.out]
          exact this
        · exact (HO.out.drewN nq).set_ _ _
      case measure => simp [intOf]; omega
    · obtain rfl : k = n := by omega
      go_wp2
      go_ret
      exact ⟨ds, cc, rfl, hcc, HD.out, HDB.out, by have h := HS.out; rwa [List.take_of_length_le (l := xs) (by rw [HXL.out]; exact Nat.le_refl _), List.take_of_length_le (l := ys) (by rw [HYL.out]; exact Nat.le_refl _)] at h, HBK.out, HO.out⟩
theorem subStep (P Q D x y c k : Nat) (hc : c ≤ 1) (hx : x < B64) (hy : y < B64) (h : D + Q = P + c * B64 ^ k) :
    D + B64 ^ k * ((x + B64 - y - c) % B64) + (Q + B64 ^ k * y) = P + B64 ^ k * x + (if x < y + c then 1 else 0) * B64 ^ (k + 1) := by
  have e : (x + B64 - y - c) % B64 + y + c = x + (if x < y + c then 1 else 0) * B64 := by unfold B64 at *; split <;> omega
  have e2 : B64 ^ k * ((x + B64 - y - c) % B64) + B64 ^ k * y + B64 ^ k * c = B64 ^ k * x + B64 ^ k * ((if x < y + c then 1 else 0) * B64) := by rw [← Nat.mul_add, ← Nat.mul_add, e, Nat.mul_add]
  have e3 : (if x < y + c then 1 else 0) * B64 ^ (k + 1) = B64 ^ k * ((if x < y + c then 1 else 0) * B64) := by rw [Nat.pow_succ]; ac_rfl
  have e4 : c * B64 ^ k = B64 ^ k * c := Nat.mul_comm _ _
  omega

set_option maxRecDepth 100000 in
theorem subVVg (g cz bx ox cx by_ oy cy : Nat) (E : TypeId) (cs : List Value) (xs ys : List Nat) (n : Nat) (w : World) (hn : n ≤ 1000000)
    (hb : Blk w g E cs) (hcs : n ≤ cs.length) (hxl : xs.length = n) (hyl : ys.length = n) (hxb : ∀ x ∈ xs, x < B64) (hyb : ∀ y ∈ ys, y < B64) (hbx : bx ≠ g) (hby : by_ ≠ g)
    (hx : ∀ j (h : j < xs.length), w.cell? ⟨bx, ox + j, none⟩ = some (.int .u64 (xs[j] : Int))) (hy : ∀ j (h : j < ys.length), w.cell? ⟨by_, oy + j, none⟩ = some (.int .u64 (ys[j] : Int))) :
    Calls Tryz.prog 220 #[.slice (some ⟨g, 0, none⟩) n cz, .slice (some ⟨bx, ox, none⟩) n cx, .slice (some ⟨by_, oy, none⟩) n cy] w
      (RetVec g E cs n (fun ds c => natOf ds + natOf ys = natOf xs + c * B64 ^ n) w) := by
  have HX := Lib.hid hx; have HY := Lib.hid hy; have HB := Lib.hid hb; have HXL := Lib.hid hxl; have HYL := Lib.hid hyl; have HXB := Lib.hid hxb; have HYB := Lib.hid hyb
  clear hx hy hb hxl hyl hxb hyb
  go_enter Tryz.func220, Tryz.ntmps220
  go_wp2
  go_loopw [6, 25] (fun c i wr => ∃ (k : Nat) (ds : List Nat) (cc : Nat), k ≤ n ∧ i = .int .i64 k ∧ c = .int .u64 (cc : Int) ∧ cc ≤ 1 ∧ ds.length = k ∧ (∀ d ∈ ds, d < B64) ∧ natOf ds + natOf (ys.take k) = natOf (xs.take k) + cc * B64 ^ k ∧ Blk wr g E (putw cs ds) ∧ Only g w wr)
    (fun _ i _ => n - (intOf i).toNat)
  case atStart => exact ⟨0, [], 0, Nat.zero_le _, rfl, rfl, Nat.zero_le _, rfl, by simp, by simp [natOf], HB.out, Only.refl _ _⟩
  case round =>
    obtain ⟨k, ds, cc, hk, rfl, rfl, hcc, hdl, hdb, hsum, hblk, honly⟩ := hrel
    have HD := Lib.hid hdl; have HDB := Lib.hid hdb; have HS := Lib.hid hsum; have HBK := Lib.hid hblk; have HO := Lib.hid honly
    clear hdl hdb hsum hblk honly
    by_cases hlt : k < n
    · have hkx : k < xs.length := by rw [HXL.out]; exact hlt
      have hky : k < ys.length := by rw [HYL.out]; exact hlt
      obtain ⟨xk, hxk⟩ : ∃ xk, xk = xs[k] := ⟨_, rfl⟩
      obtain ⟨yk, hyk⟩ : ∃ yk, yk = ys[k] := ⟨_, rfl⟩
      have cx' : wr.cell? ⟨bx, ox + k, none⟩ = some (.int .u64 (xk : Int)) := by rw [hxk]; exact HO.out.cell (HX.out k hkx) hbx
      have cy' : wr.cell? ⟨by_, oy + k, none⟩ = some (.int .u64 (yk : Int)) := by rw [hyk]; exact HO.out.cell (HY.out k hky) hby
      have HXK := Lib.hid hxk; have HYK := Lib.hid hyk
      clear hxk hyk
      obtain ⟨old, hold⟩ : ∃ old, wr.cell? ⟨g, k, none⟩ = some old := ⟨_, (HBK.out.cell k).trans (List.getElem?_eq_getElem (by rw [putw_length _ _ (by rw [HD.out]; omega)]; omega))⟩
      have hfz : wr.frozen? ⟨g, k, none⟩ = false := HBK.out.frozen k
      go_wp2
      go_quiet ((go_at_call 221; exact Calls.quiet_of_same (bitsSub _ _ _ hcc _)))
      go_wp2
      go_roundw
      case rel =>
        refine ⟨k + 1, ds ++ [(xk + B64 - yk - cc) % B64], (if xk < yk + cc then 1 else 0), by omega, by go_num, rfl, ?_, by simp [HD.out], ?_, ?_, ?_, ?_⟩
        · split <;> omega
        · intro d hd
          rcases List.mem_append.1 hd with h | h
          · exact HDB.out d h
          · simp at h; subst h; exact Nat.mod_lt _ B64_pos
        · rw [natOf_snoc, HD.out, natOf_take_succ xs _ hkx, natOf_take_succ ys _ hky, ← HXK.out, ← HYK.out]
          exact subStep _ _ _ _ _ _ _ hcc (by rw [HXK.out]; exact HXB.out _ (List.getElem_mem _)) (by rw [HYK.out]; exact HYB.out _ (List.getElem_mem _)) HS.out
        · have := (HBK.out.drewN nq).set_ k (wv ((xk + B64 - yk - cc) % B64))
          rw [← putw_set _ _ _ (by rw [HD.out]; omega), HD.out]
          exact this
        · exact (HO.out.drewN nq).set_ _ _
      case measure => simp [intOf]; omega
    · obtain rfl : k = n := by omega
      go_wp2
      go_ret
      exact ⟨ds, cc, rfl, hcc, HD.out, HDB.out, by have h := HS.out; rwa [List.take_of_length_le (l := xs) (by rw [HXL.out]; exact Nat.le_refl _), List.take_of_length_le (l := ys) (by rw [HYL.out]; exact Nat.le_refl _)] at h, HBK.out, HO.out⟩
set_option maxRecDepth 100000 in
theorem addVV (g cz bx ox cx by_ oy cy : Nat) (E : TypeId) (cs : List Value) (xs ys : List Nat) (n : Nat) (w : World) (hn : n ≤ 1000000)
    (hb : Blk w g E cs) (hcs : n ≤ cs.length) (hxl : xs.length = n) (hyl : ys.length = n) (hxb : ∀ x ∈ xs, x < B64) (hyb : ∀ y ∈ ys, y < B64) (hbx : bx ≠ g) (hby : by_ ≠ g)
    (hx : ∀ j (h : j < xs.length), w.cell? ⟨bx, ox + j, none⟩ = some (.int .u64 (xs[j] : Int))) (hy : ∀ j (h : j < ys.length), w.cell? ⟨by_, oy + j, none⟩ = some (.int .u64 (ys[j] : Int))) :
    Calls Tryz.prog 210 #[.slice (some ⟨g, 0, none⟩) n cz, .slice (some ⟨bx, ox, none⟩) n cx, .slice (some ⟨by_, oy, none⟩) n cy] w
      (RetVec g E cs n (fun ds c => natOf ds + c * B64 ^ n = natOf xs + natOf ys) w) := by
  have H := Lib.hid (addVVg g cz bx ox cx by_ oy cy E cs xs ys n w hn hb hcs hxl hyl hxb hyb hbx hby hx hy)
  clear hb hcs hxl hyl hxb hyb hbx hby hx hy
  go_enter Tryz.func210, Tryz.ntmps210
  go_wp2_with (go_at_call 218; refine H.out.mono ?_; rintro e w' ⟨ds, c, rfl, hr⟩)
  go_ret
  exact ⟨ds, c, rfl, hr⟩
set_option maxRecDepth 100000 in
theorem subVV (g cz bx ox cx by_ oy cy : Nat) (E : TypeId) (cs : List Value) (xs ys : List Nat) (n : Nat) (w : World) (hn : n ≤ 1000000)
    (hb : Blk w g E cs) (hcs : n ≤ cs.length) (hxl : xs.length = n) (hyl : ys.length = n) (hxb : ∀ x ∈ xs, x < B64) (hyb : ∀ y ∈ ys, y < B64) (hbx : bx ≠ g) (hby : by_ ≠ g)
    (hx : ∀ j (h : j < xs.length), w.cell? ⟨bx, ox + j, none⟩ = some (.int .u64 (xs[j] : Int))) (hy : ∀ j (h : j < ys.length), w.cell? ⟨by_, oy + j, none⟩ = some (.int .u64 (ys[j] : Int))) :
    Calls Tryz.prog 213 #[.slice (some ⟨g, 0, none⟩) n cz, .slice (some ⟨bx, ox, none⟩) n cx, .slice (some ⟨by_, oy, none⟩) n cy] w
      (RetVec g E cs n (fun ds c => natOf ds + natOf ys = natOf xs + c * B64 ^ n) w) := by
  have H := Lib.hid (subVVg g cz bx ox cx by_ oy cy E cs xs ys n w hn hb hcs hxl hyl hxb hyb hbx hby hx hy)
  clear hb hcs hxl hyl hxb hyb hbx hby hx hy
  go_enter Tryz.func213, Tryz.ntmps213
  go_wp2_with (go_at_call 220; refine H.out.mono ?_; rintro e w' ⟨ds, c, rfl, hr⟩)
  go_ret
  exact ⟨ds, c, rfl, hr⟩
end Go.Proofs.YtagfbefgcijegaaGreatDoor
