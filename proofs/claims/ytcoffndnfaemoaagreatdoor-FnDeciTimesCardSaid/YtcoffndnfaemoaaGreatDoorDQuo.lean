/-
  Contract of big.Int's QuoRem on new receivers, by a positive number of one word, given the words' division.
-/
import Derived.Test.YtcoffndnfaemoaaGreatDoorDAdd
import Derived.Test.YtcoffndnfaemoaaGreatDoorIntQuo
import Derived.Deep.RegionHeld3
import Derived.Deep.DeepCutAuto
namespace Go.Proofs.YtcoffndnfaemoaaGreatDoor
open Go Go.RowKit

/-- Two receivers while they are written. -/
def QRs (w w1 : World) (b rb : Nat) (cb cr : List Value) (A : Option Addr) (ws : List Nat) (B : Option Addr) (vs : List Nat) : Prop :=
  Blk w1 b 126 cb ∧ Blk w1 rb 126 cr ∧ Words w1 A ws ∧ Words w1 B vs ∧ Only2 b rb w w1
theorem only2_setR {b g : Nat} {w w1 : World} (h : Only2 b g w w1) (i : Nat) (u : Value) : Only2 b g w (w1.setCell ⟨g, i, none⟩ u) := h.trans' ((Only.refl g w1).set_ i u).two
theorem QRs.setB {w w1 : World} {b rb : Nat} {cb cr : List Value} {A B : Option Addr} {ws vs : List Nat} (h : QRs w w1 b rb cb cr A ws B vs) (hne : b ≠ rb) (i : Nat) (u : Value) : QRs w (w1.setCell ⟨b, i, none⟩ u) b rb (cb.set i u) cr A ws B vs := by
  obtain ⟨h1, h2, h3, h4, h5⟩ := h
  exact ⟨h1.set_ i u, ((Only.refl b w1).set_ i u).block' h2 hne.symm, h3.set_ (by intro a ha hn; subst ha; exact words_ne h3 hn h1) i u, h4.set_ (by intro a ha hn; subst ha; exact words_ne h4 hn h1) i u, h5.set_ i u⟩
theorem QRs.setR {w w1 : World} {b rb : Nat} {cb cr : List Value} {A B : Option Addr} {ws vs : List Nat} (h : QRs w w1 b rb cb cr A ws B vs) (hne : b ≠ rb) (i : Nat) (u : Value) : QRs w (w1.setCell ⟨rb, i, none⟩ u) b rb cb (cr.set i u) A ws B vs := by
  obtain ⟨h1, h2, h3, h4, h5⟩ := h
  exact ⟨((Only.refl rb w1).set_ i u).block' h1 hne, h2.set_ i u, h3.set_ (by intro a ha hn; subst ha; exact words_ne h3 hn h2) i u, h4.set_ (by intro a ha hn; subst ha; exact words_ne h4 hn h2) i u, only2_setR h5 i u⟩
theorem QRs.drew {w w1 : World} {b rb : Nat} {cb cr : List Value} {A B : Option Addr} {ws vs : List Nat} (h : QRs w w1 b rb cb cr A ws B vs) : QRs w w1.drew b rb cb cr A ws B vs :=
  ⟨h.1, h.2.1, h.2.2.1, h.2.2.2.1, ⟨h.2.2.2.2.os, h.2.2.2.2.tape, h.2.2.2.2.output, h.2.2.2.2.size, h.2.2.2.2.block⟩⟩
theorem bigAt_fin {w1 : World} {b : Nat} {z : Int} {s t : Bool} {A : Option Addr} {c k : Nat} {ws : List Nat} (hb : Blk w1 b 126 [.bool t, .slice A k c]) (hk : ws.length = k) (hl : ws.length ≤ c) (hw : Words w1 A ws) (hN : Norm ws) (hz : z = bigVal s ws) (ht : t = (decide (0 < k) && s)) : BigAt w1 b z := by
  subst hk
  refine ⟨A, c, ws, t, hb, hw, hl, hN, ?_, ?_⟩
  · intro e; subst e; subst ht; rfl
  · rw [hz, ht]
    rcases Nat.eq_zero_or_pos ws.length with e | e
    · rw [sign0 e]; simp [e]
    · simp [e]
/-- Quotient and rest in two receivers. -/
def RetQRI (b rb : Nat) (q r : Int) (w : World) (e : Ending) (w' : World) : Prop :=
  e = .returned (.tuple #[.pointer (some ⟨b, 0, none⟩), .pointer (some ⟨rb, 0, none⟩)]) ∧ BigAt w' b q ∧ BigAt w' rb r ∧ Only2 b rb w w'
theorem QRs.fin {w w' : World} {b rb : Nat} {cb cr : List Value} {A B : Option Addr} {ws vs : List Nat} {t t' s s' : Bool} {c c' k k' : Nat} {q r : Int} (h : QRs w w' b rb cb cr A ws B vs) (h1 : cb = [.bool t, .slice A k c]) (h2 : cr = [.bool t', .slice B k' c'])
    (hk : ws.length = k) (hk' : vs.length = k') (hl : ws.length ≤ c) (hl' : vs.length ≤ c') (hN : Norm ws) (hN' : Norm vs) (hq : q = bigVal s ws) (hr : r = bigVal s' vs) (ht : t = (decide (0 < k) && s)) (ht' : t' = (decide (0 < k') && s')) : BigAt w' b q ∧ BigAt w' rb r ∧ Only2 b rb w w' := by
  obtain ⟨a1, a2, a3, a4, a5⟩ := h
  subst h1; subst h2
  exact ⟨bigAt_fin a1 hk hl a3 hN hq ht, bigAt_fin a2 hk' hl' a4 hN' hr ht', a5⟩
theorem quoSign {s : Bool} {xs ys ws : List Nat} (h : natOf ws = natOf xs / natOf ys) : Int.tdiv (bigVal s xs) (natOf ys : Int) = bigVal s ws := by
  have e : Int.tdiv (natOf xs : Int) (natOf ys : Int) = ((natOf ws : Nat) : Int) := by rw [h]; rfl
  cases s <;> simp [bigVal, Int.neg_tdiv, e]
theorem remSign {s : Bool} {xs ys ws : List Nat} (h : natOf ws = natOf xs % natOf ys) : Int.tmod (bigVal s xs) (natOf ys : Int) = bigVal s ws := by
  have e : Int.tmod (natOf xs : Int) (natOf ys : Int) = ((natOf ws : Nat) : Int) := by rw [h]; rfl
  cases s <;> simp [bigVal, Int.neg_tmod, e]

/-- Both receivers with their words, the signs not yet set. -/
def QCut (w : World) (b rb N M : Nat) (wx : World) : Prop := ∃ A' c' ws' B' d' vs' cb cr, (ws'.length ≤ c' ∧ Norm ws' ∧ natOf ws' = N) ∧ (vs'.length ≤ d' ∧ Norm vs' ∧ natOf vs' = M) ∧ QRs w wx b rb cb cr A' ws' B' vs' ∧ cb = [.bool false, .slice A' ws'.length c'] ∧ cr = [.bool false, .slice B' vs'.length d']

theorem QCut.mk {w : World} {b rb N M : Nat} {wx : World} {A' B' : Option Addr} {c' d' : Nat} {ws' vs' : List Nat} {cb cr : List Value} (h : QRs w wx b rb cb cr A' ws' B' vs') (h1 : cb = [.bool false, .slice A' ws'.length c']) (h2 : cr = [.bool false, .slice B' vs'.length d'])
    (hn : ws'.length ≤ c' ∧ Norm ws' ∧ natOf ws' = N) (hn2 : vs'.length ≤ d' ∧ Norm vs' ∧ natOf vs' = M) : QCut w b rb N M wx := ⟨A', c', ws', B', d', vs', cb, cr, hn, hn2, h, h1, h2⟩

set_option maxRecDepth 100000 in
set_option maxHeartbeats 10000000 in
theorem vQuoRem (s : Bool) {w : World} {b rb x x' : Nat} {A B : Option Addr} {c d : Nat} {xs ys : List Nat} (a0 : w.cell? ⟨x, 0, none⟩ = some (.bool s)) (a1 : w.cell? ⟨x, 1, none⟩ = some (.slice A xs.length c))
    (b0 : w.cell? ⟨x', 0, none⟩ = some (.bool false)) (b1 : w.cell? ⟨x', 1, none⟩ = some (.slice B 1 d)) (hb : Blk w b 126 [.bool false, .slice none 0 0]) (hr : Blk w rb 126 [.bool false, .slice none 0 0])
    (hne : b ≠ rb) (hxb : x ≠ b) (hyb : x' ≠ b) (hxr : x ≠ rb) (hyr : x' ≠ rb)
    (HD : ∀ W, Ext w W → Calls Tryz.prog 183 #[.slice none 0 0, .pointer none, .slice none 0 0, .slice A xs.length c, .slice B 1 d] W (RetQR (natOf xs / natOf ys) (natOf xs % natOf ys) W)) :
    Calls Tryz.prog 140 #[.pointer (some ⟨b, 0, none⟩), .pointer (some ⟨x, 0, none⟩), .pointer (some ⟨x', 0, none⟩), .pointer (some ⟨rb, 0, none⟩)] w
      (RetQRI b rb (Int.tdiv (bigVal s xs) (natOf ys : Int)) (Int.tmod (bigVal s xs) (natOf ys : Int)) w) := by
  have z1 : w.cell? ⟨b, 1, none⟩ = some (.slice none 0 0) := (hb.cell 1).trans rfl
  have y1 : w.cell? ⟨rb, 1, none⟩ = some (.slice none 0 0) := (hr.cell 1).trans rfl
  have HB := Lib.hid hb; have HRB := Lib.hid hr; have HDD := Lib.hid HD; have HA0 := Lib.hid a0; have HB0 := Lib.hid b0
  have hne' := hne.symm; have hxb' := hxb.symm; have hyb' := hyb.symm; have hxr' := hxr.symm; have hyr' := hyr.symm
  obtain ⟨N, hN⟩ : ∃ N, N = natOf xs / natOf ys := ⟨_, rfl⟩
  obtain ⟨M, hM⟩ : ∃ M, M = natOf xs % natOf ys := ⟨_, rfl⟩
  rw [← hN, ← hM] at HDD
  have HN := Lib.hid hN; have HM := Lib.hid hM
  clear hb hr HD hN hM a0 b0
  go_enter Tryz.func140, Tryz.ntmps140
  go_upto_region 1 with fail
  go_cut [30, 31] (fun s30 s31 wx => QCut w b rb N M wx)
  case first =>
    go_region_law (first | (go_simp; go_at_call 183; refine (HDD.out _ (by exact Ext.drewN' _ _)).mono ?_; rintro e w1 ⟨A', c', ws', B', d', vs', rfl, hn, hn2, hE0⟩; have hE : Ext w w1 := Ext.undrewN hE0; have fz1 := (HB.out.ext hE).frozen 1; have fy1 := (HRB.out.ext hE).frozen 1; have lb := (HB.out.ext hE).lt; have lr := (HRB.out.ext hE).lt; have HNN := Lib.hid hn; have HN2 := Lib.hid hn2; have HQ := Lib.hid (show QRs w w1 b rb [.bool false, .slice none 0 0] [.bool false, .slice none 0 0] A' ws' B' vs' from ⟨HB.out.ext hE, HRB.out.ext hE, hn.2.1, hn2.2.1, (Only.of_ext hE).two⟩); have z1' := hE.cell' z1; have y1' := hE.cell' y1; clear hn hn2 hE0 hE z1 y1 a1 b1))
    all_goals (go_wp2_with fail; go_meet)
    all_goals (apply QCut.mk (hn := ⟨HNN.out.1, HNN.out.2.2.1, HNN.out.2.2.2⟩) (hn2 := ⟨HN2.out.1, HN2.out.2.2.1, HN2.out.2.2.2⟩); (· (repeat (with_reducible first | apply QRs.drew | apply QRs.setB (hne := hne) | apply QRs.setR (hne := hne))); exact HQ.out); (· rfl); (· rfl))
  case rest =>
    obtain ⟨A', c', ws', B', d', vs', cb, cr, hn, hn2, hq, rfl, rfl⟩ := hcut
    have a0 : wc.cell? ⟨x, 0, none⟩ = some (.bool s) := hq.2.2.2.2.cell HA0.out hxb hxr
    have b0 : wc.cell? ⟨x', 0, none⟩ = some (.bool false) := hq.2.2.2.2.cell HB0.out hyb hyr
    have z0 : wc.cell? ⟨b, 0, none⟩ = some (.bool false) := (hq.1.cell 0).trans rfl
    have z1 : wc.cell? ⟨b, 1, none⟩ = some (.slice A' ws'.length c') := (hq.1.cell 1).trans rfl
    have y0 : wc.cell? ⟨rb, 0, none⟩ = some (.bool false) := (hq.2.1.cell 0).trans rfl
    have y1 : wc.cell? ⟨rb, 1, none⟩ = some (.slice B' vs'.length d') := (hq.2.1.cell 1).trans rfl
    have fz0 := hq.1.frozen 0; have fy0 := hq.2.1.frozen 0
    have lb := hq.1.lt; have lr := hq.2.1.lt
    have HNN := Lib.hid hn; have HN2 := Lib.hid hn2; have HQ := Lib.hid hq
    clear hn hn2 hq
    obtain ⟨k, hk⟩ : ∃ k, ws'.length = k := ⟨_, rfl⟩
    obtain ⟨k2, hk2⟩ : ∃ k, vs'.length = k := ⟨_, rfl⟩
    rw [hk] at z1; rw [hk2] at y1
    have HK := Lib.hid hk; have HK2 := Lib.hid hk2; clear hk hk2
    rw [HK.out, HK2.out] at HQ
    cases s
    all_goals (rcases Nat.eq_zero_or_pos k with h0 | h0)
    all_goals (first | subst h0 | (have hd : (0 : Int) < (k : Int) := by omega))
    all_goals (rcases Nat.eq_zero_or_pos k2 with h2 | h2)
    all_goals (first | subst h2 | (have hd2 : (0 : Int) < (k2 : Int) := by omega))
    all_goals go_wp2_with (fail)
    all_goals go_region
    all_goals go_wp2
    all_goals go_ret2
    all_goals (refine ⟨rfl, ?_⟩; apply QRs.fin (hk := HK.out) (hk' := HK2.out) (hl := HNN.out.1) (hl' := HN2.out.1) (hN := HNN.out.2.1) (hN' := HN2.out.2.1) (hq := quoSign (by rw [← HN.out]; exact HNN.out.2.2)) (hr := remSign (by rw [← HM.out]; exact HN2.out.2.2)); (· (repeat (with_reducible first | apply QRs.drew | apply QRs.setB (hne := hne) | apply QRs.setR (hne := hne))); exact HQ.out); (· rfl); (· rfl); (· first | rfl | (rw [decide_eq_true h0]; rfl)); (· first | rfl | (rw [decide_eq_true h2]; rfl)))

end Go.Proofs.YtcoffndnfaemoaaGreatDoor
