/-
  Contract of big.Int's Add at any receiver, in place or not.
-/
import Derived.Test.YtcoffndnfaemoaaGreatDoorGN
namespace Go.Proofs.YtcoffndnfaemoaaGreatDoor
open Go Go.RowKit

set_option maxRecDepth 100000 in
set_option maxHeartbeats 1000000 in
theorem vAdd_sum (s : Bool) {w : World} {b x x' gz cz n0 : Nat} {s0 : Bool} {A AX AY : Option Addr} {zs xs ys : List Nat} {cx cy : Nat} (H : In2 w b x x' gz cz n0 s0 A AX AY zs xs ys cx cy s s)  :
    Calls Tryz.prog 88 #[.pointer (some ⟨b, 0, none⟩), .pointer (some ⟨x, 0, none⟩), .pointer (some ⟨x', 0, none⟩)] w (RetBV b gz (bigVal s xs + bigVal s ys) w) := by
  obtain ⟨hb, hz, hg, hx, hy, a0, a1, b0, b1, hxN, hyN, hxl, hyl, hxg, hyg⟩ := H
  have z0 : w.cell? ⟨b, 0, none⟩ = some (.bool s0) := (hb.cell 0).trans rfl
  have z1 : w.cell? ⟨b, 1, none⟩ = some (.slice A n0 cz) := (hb.cell 1).trans rfl
  have HX := Lib.hid hx; have HY := Lib.hid hy; have HB := Lib.hid hb; have HZ := Lib.hid hz
  clear hb hx hy hz
  cases s
  all_goals
    go_enter Tryz.func88, Tryz.ntmps88
    go_wp2
    go_quiet (fail)
    go_wp2
    go_region_law (first | (go_simp; go_at_call 129; refine (gAddN A n0 cz gz zs AX AY cx cy xs ys xs.length ys.length _ (by exact HZ.out) (by exact HX.out) (by exact HY.out) rfl rfl (by omega) (by omega) hxN hyN).mono ?_; rintro e w1 ⟨A', c', g', ws', rfl, hn⟩; have hO : Only gz w w1 := ⟨hn.2.2.2.1.os, hn.2.2.2.1.tape, hn.2.2.2.1.output, hn.2.2.2.1.size, hn.2.2.2.1.block⟩; have z1' := hO.cell z1 (Ne.symm hg); have z0' := hO.cell z0 (Ne.symm hg); have fz1 := (hO.block' HB.out (Ne.symm hg)).frozen 1; have fz0 := (hO.block' HB.out (Ne.symm hg)).frozen 0; have HN := Lib.hid hn; clear hn; have HO := Lib.hid hO; clear hO))
    all_goals go_wp2
    all_goals go_ret
    all_goals exact ⟨rfl, endV HB.out hg HO.out HN.out.1 HN.out.2.2.2.2 HN.out.2.1 rfl (sgnAdd (s := _) HN.out.2.2.1) _ (by simp [*])⟩

set_option maxRecDepth 100000 in
set_option maxHeartbeats 1000000 in
theorem vAdd_ge (s : Bool) {w : World} {b x x' gz cz n0 : Nat} {s0 : Bool} {A AX AY : Option Addr} {zs xs ys : List Nat} {cx cy : Nat} (H : In2 w b x x' gz cz n0 s0 A AX AY zs xs ys cx cy s (!s)) (hge : natOf ys ≤ natOf xs) :
    Calls Tryz.prog 88 #[.pointer (some ⟨b, 0, none⟩), .pointer (some ⟨x, 0, none⟩), .pointer (some ⟨x', 0, none⟩)] w (RetBV b gz (bigVal s xs + bigVal (!s) ys) w) := by
  obtain ⟨hb, hz, hg, hx, hy, a0, a1, b0, b1, hxN, hyN, hxl, hyl, hxg, hyg⟩ := H
  have z0 : w.cell? ⟨b, 0, none⟩ = some (.bool s0) := (hb.cell 0).trans rfl
  have z1 : w.cell? ⟨b, 1, none⟩ = some (.slice A n0 cz) := (hb.cell 1).trans rfl
  have HX := Lib.hid hx; have HY := Lib.hid hy; have HB := Lib.hid hb; have HZ := Lib.hid hz
  have HC : Hid (∀ W, Words W AX xs → Words W AY ys → Calls Tryz.prog 130 #[.slice AX xs.length cx, .slice AY ys.length cy] W (RetQ (.int .i64 (cmpZ (natOf xs) (natOf ys))) W)) := fun W h1 h2 => natCmp AX AY cx cy xs ys W h1 h2 hxN hyN (by omega) (by omega)
  have hc : 0 ≤ cmpZ (natOf xs) (natOf ys) := by unfold cmpZ; rw [if_neg (by omega)]; split <;> omega
  clear hb hx hy hz
  cases s
  all_goals
    go_enter Tryz.func88, Tryz.ntmps88
    go_wp2
    go_quiet (fail)
    go_wp2
    go_quiet ((go_at_call 130; exact quietQ (HC.out _ (by exact HX.out.words) (by exact HY.out.words))))
    go_wp2
    go_region_law (first | (go_simp; go_at_call 131; refine (gSubN A n0 cz gz zs AX AY cx cy xs ys xs.length ys.length _ (by exact HZ.out) (by exact HX.out) (by exact HY.out) rfl rfl (by omega) hxN hyN hge).mono ?_; rintro e w1 ⟨A', c', g', ws', rfl, hn⟩; have hO : Only gz w w1 := ⟨hn.2.2.2.1.os, hn.2.2.2.1.tape, hn.2.2.2.1.output, hn.2.2.2.1.size, hn.2.2.2.1.block⟩; have z1' := hO.cell z1 (Ne.symm hg); have z0' := hO.cell z0 (Ne.symm hg); have fz1 := (hO.block' HB.out (Ne.symm hg)).frozen 1; have fz0 := (hO.block' HB.out (Ne.symm hg)).frozen 0; have HN := Lib.hid hn; clear hn; have HO := Lib.hid hO; clear hO))
    all_goals go_wp2
    all_goals go_ret
    all_goals exact ⟨rfl, endV HB.out hg HO.out HN.out.1 HN.out.2.2.2.2 HN.out.2.1 rfl (sgnAddGe (s := _) hge HN.out.2.2.1) _ (by simp [*])⟩

set_option maxRecDepth 100000 in
set_option maxHeartbeats 1000000 in
theorem vAdd_lt (s : Bool) {w : World} {b x x' gz cz n0 : Nat} {s0 : Bool} {A AX AY : Option Addr} {zs xs ys : List Nat} {cx cy : Nat} (H : In2 w b x x' gz cz n0 s0 A AX AY zs xs ys cx cy s (!s)) (hlt : natOf xs < natOf ys) :
    Calls Tryz.prog 88 #[.pointer (some ⟨b, 0, none⟩), .pointer (some ⟨x, 0, none⟩), .pointer (some ⟨x', 0, none⟩)] w (RetBV b gz (bigVal s xs + bigVal (!s) ys) w) := by
  obtain ⟨hb, hz, hg, hx, hy, a0, a1, b0, b1, hxN, hyN, hxl, hyl, hxg, hyg⟩ := H
  have z0 : w.cell? ⟨b, 0, none⟩ = some (.bool s0) := (hb.cell 0).trans rfl
  have z1 : w.cell? ⟨b, 1, none⟩ = some (.slice A n0 cz) := (hb.cell 1).trans rfl
  have HX := Lib.hid hx; have HY := Lib.hid hy; have HB := Lib.hid hb; have HZ := Lib.hid hz
  have HC : Hid (∀ W, Words W AX xs → Words W AY ys → Calls Tryz.prog 130 #[.slice AX xs.length cx, .slice AY ys.length cy] W (RetQ (.int .i64 (cmpZ (natOf xs) (natOf ys))) W)) := fun W h1 h2 => natCmp AX AY cx cy xs ys W h1 h2 hxN hyN (by omega) (by omega)
  have hc : cmpZ (natOf xs) (natOf ys) < 0 := by unfold cmpZ; rw [if_pos (by omega)]; omega
  have hge : natOf xs ≤ natOf ys := by omega
  clear hlt
  clear hb hx hy hz
  cases s
  all_goals
    go_enter Tryz.func88, Tryz.ntmps88
    go_wp2
    go_quiet (fail)
    go_wp2
    go_quiet ((go_at_call 130; exact quietQ (HC.out _ (by exact HX.out.words) (by exact HY.out.words))))
    go_wp2
    go_region_law (first | (go_simp; go_at_call 131; refine (gSubN A n0 cz gz zs AY AX cy cx ys xs ys.length xs.length _ (by exact HZ.out) (by exact HY.out) (by exact HX.out) rfl rfl (by omega) hyN hxN hge).mono ?_; rintro e w1 ⟨A', c', g', ws', rfl, hn⟩; have hO : Only gz w w1 := ⟨hn.2.2.2.1.os, hn.2.2.2.1.tape, hn.2.2.2.1.output, hn.2.2.2.1.size, hn.2.2.2.1.block⟩; have z1' := hO.cell z1 (Ne.symm hg); have z0' := hO.cell z0 (Ne.symm hg); have fz1 := (hO.block' HB.out (Ne.symm hg)).frozen 1; have fz0 := (hO.block' HB.out (Ne.symm hg)).frozen 0; have HN := Lib.hid hn; clear hn; have HO := Lib.hid hO; clear hO))
    all_goals go_wp2
    all_goals go_ret
    all_goals exact ⟨rfl, endV HB.out hg HO.out HN.out.1 HN.out.2.2.2.2 HN.out.2.1 rfl (sgnAddLt (s := _) hge HN.out.2.2.1) _ (by simp [*])⟩

theorem vAdd {w : World} {b x x' gz cz n0 : Nat} {s0 nx ny : Bool} {A AX AY : Option Addr} {zs xs ys : List Nat} {cx cy : Nat} (H : In2 w b x x' gz cz n0 s0 A AX AY zs xs ys cx cy nx ny) :
    Calls Tryz.prog 88 #[.pointer (some ⟨b, 0, none⟩), .pointer (some ⟨x, 0, none⟩), .pointer (some ⟨x', 0, none⟩)] w (RetBV b gz (bigVal nx xs + bigVal ny ys) w) := by
  by_cases hs : ny = nx
  · subst hs
    exact vAdd_sum _ H
  · obtain rfl : ny = !nx := by cases nx <;> cases ny <;> simp_all
    exact if hge : natOf ys ≤ natOf xs then vAdd_ge _ H hge else vAdd_lt _ H (by omega)

end Go.Proofs.YtcoffndnfaemoaaGreatDoor
