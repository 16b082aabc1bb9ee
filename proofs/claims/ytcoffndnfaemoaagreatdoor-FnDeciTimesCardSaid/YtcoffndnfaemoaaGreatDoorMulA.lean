/-
  big.Int's QuoRem by 10^18 in place, the rest in a new receiver: for numbers that are wholly newer than a world w0.
-/
import Derived.Test.YtcoffndnfaemoaaGreatDoorHW
namespace Go.Proofs.YtcoffndnfaemoaaGreatDoor
open Go Go.RowKit

/-- Two receivers while they are written, both newer than w0. -/
def QRi (w0 w1 : World) (b rb y : Nat) (cb cr : List Value) (A : Option Addr) (c g : Nat) (ws : List Nat) (B : Option Addr) (d h : Nat) (vs : List Nat) : Prop :=
  Blk w1 b 126 cb ∧ Blk w1 rb 126 cr ∧ NatV w1 A c g ws ∧ NatV w1 B d h vs ∧ Ext w0 w1 ∧ w1.cell? ⟨y, 0, none⟩ = some (.bool false)
theorem natv_ne {w : World} {A : Option Addr} {c g b : Nat} {ws : List Nat} {cs : List Value} (h : NatV w A c g ws) (hb : Blk w b 126 cs) : A ≠ none → g ≠ b := fun hA => by
  rcases h with ⟨h, _⟩ | ⟨_, _, _, full, hf, _⟩
  · exact absurd h hA
  · exact hf.1.ne hb (by decide)
theorem QRi.setB {w0 w1 : World} {b rb y c g d h : Nat} {cb cr : List Value} {A B : Option Addr} {ws vs : List Nat} (k : QRi w0 w1 b rb y cb cr A c g ws B d h vs) (hne : b ≠ rb) (hb : w0.heap.size ≤ b) (hy : y ≠ b) (i : Nat) (u : Value) : QRi w0 (w1.setCell ⟨b, i, none⟩ u) b rb y (cb.set i u) cr A c g ws B d h vs := by
  obtain ⟨h1, h2, h3, h4, h5, h6⟩ := k
  have ho := (Only.refl b w1).set_ i u
  exact ⟨h1.set_ i u, ho.block' h2 hne.symm, h3.only ho (natv_ne h3 h1), h4.only ho (natv_ne h4 h1), Only.ext h5 ho hb, set_far h6 hy⟩
theorem QRi.setR {w0 w1 : World} {b rb y c g d h : Nat} {cb cr : List Value} {A B : Option Addr} {ws vs : List Nat} (k : QRi w0 w1 b rb y cb cr A c g ws B d h vs) (hne : b ≠ rb) (hb : w0.heap.size ≤ rb) (hy : y ≠ rb) (i : Nat) (u : Value) : QRi w0 (w1.setCell ⟨rb, i, none⟩ u) b rb y cb (cr.set i u) A c g ws B d h vs := by
  obtain ⟨h1, h2, h3, h4, h5, h6⟩ := k
  have ho := (Only.refl rb w1).set_ i u
  exact ⟨ho.block' h1 hne, h2.set_ i u, h3.only ho (natv_ne h3 h2), h4.only ho (natv_ne h4 h2), Only.ext h5 ho hb, set_far h6 hy⟩
theorem QRi.drew {w0 w1 : World} {b rb y c g d h : Nat} {cb cr : List Value} {A B : Option Addr} {ws vs : List Nat} (k : QRi w0 w1 b rb y cb cr A c g ws B d h vs) : QRi w0 w1.drew b rb y cb cr A c g ws B d h vs :=
  ⟨k.1, k.2.1, k.2.2.1, k.2.2.2.1, k.2.2.2.2.1.trans' (Ext.drewN' _ 1), k.2.2.2.2.2⟩
theorem bigV_fin {w1 : World} {b g : Nat} {z : Int} {s t : Bool} {A : Option Addr} {c k : Nat} {ws : List Nat} (hb : Blk w1 b 126 [.bool t, .slice A k c]) (hk : ws.length = k) (hw : NatV w1 A c g ws) (hg : g ≠ b) (hN : Norm ws) (hz : z = bigVal s ws) (ht : t = (decide (0 < k) && s)) : BigV w1 b g c z := by
  subst hk
  refine ⟨hg, A, ws, t, hb, hw, hN, ?_, ?_⟩
  · intro e; subst e; subst ht; rfl
  · rw [hz, ht]
    rcases Nat.eq_zero_or_pos ws.length with e | e
    · rw [sign0 e]; simp [e]
    · simp [e]
/-- Where the words lie that belong to block b, newer than w0 and not b. -/
theorem natv_new {w0 w : World} {A : Option Addr} {c g b : Nat} {ws : List Nat} {cs : List Value} (h : NatV w A c g ws) (hb : Blk w b 126 cs) (hg : w0.heap.size ≤ g) (hs : w0.heap.size ≤ w.heap.size) : ∃ g', NatV w A c g' ws ∧ g' ≠ b ∧ w0.heap.size ≤ g' := by
  rcases h with ⟨hA, hc, hw⟩ | h
  · exact ⟨w.heap.size, Or.inl ⟨hA, hc, hw⟩, fun e => by have := hb.lt; omega, hs⟩
  · have hA : A ≠ none := by rw [h.1]; simp
    exact ⟨g, Or.inr h, natv_ne (Or.inr h) hb hA, hg⟩
/-- Quotient and rest in two receivers, both wholly newer than w0. -/
def RetQRw (w0 : World) (b rb : Nat) (q r : Int) (e : Ending) (w' : World) : Prop :=
  e = .returned (.tuple #[.pointer (some ⟨b, 0, none⟩), .pointer (some ⟨rb, 0, none⟩)]) ∧ BigF w0 w' b q ∧ BigF w0 w' rb r ∧ Ext w0 w'
theorem QRi.fin {w0 w' : World} {b rb y c g d h k k' : Nat} {cb cr : List Value} {A B : Option Addr} {ws vs : List Nat} {t t' s s' : Bool} {q r : Int} (x : QRi w0 w' b rb y cb cr A c g ws B d h vs) (h1 : cb = [.bool t, .slice A k c]) (h2 : cr = [.bool t', .slice B k' d]) (hb : w0.heap.size ≤ b) (hrb : w0.heap.size ≤ rb) (hg : w0.heap.size ≤ g) (hh : w0.heap.size ≤ h)
    (hk : ws.length = k) (hk' : vs.length = k') (hN : Norm ws) (hN' : Norm vs) (hq : q = bigVal s ws) (hr : r = bigVal s' vs) (ht : t = (decide (0 < k) && s)) (ht' : t' = (decide (0 < k') && s')) : BigF w0 w' b q ∧ BigF w0 w' rb r ∧ Ext w0 w' := by
  obtain ⟨a1, a2, a3, a4, a5, _⟩ := x
  subst h1; subst h2
  obtain ⟨g1, n1, n2, n3⟩ := natv_new a3 a1 hg a5.size
  obtain ⟨g2, m1, m2, m3⟩ := natv_new a4 a2 hh a5.size
  exact ⟨⟨hb, g1, c, bigV_fin a1 hk n1 n2 hN hq ht, n3⟩, ⟨hrb, g2, d, bigV_fin a2 hk' m1 m2 hN' hr ht', m3⟩, a5⟩
/-- Both receivers with their words, the signs not yet set. -/
def QCi (w0 : World) (b rb y : Nat) (s : Bool) (N M : Nat) (wx : World) : Prop := ∃ A' c' g' ws' B' d' h' vs' cb cr, (Norm ws' ∧ natOf ws' = N) ∧ (Norm vs' ∧ natOf vs' = M) ∧ (w0.heap.size ≤ g' ∧ w0.heap.size ≤ h') ∧ QRi w0 wx b rb y cb cr A' c' g' ws' B' d' h' vs' ∧ cb = [.bool s, .slice A' ws'.length c'] ∧ cr = [.bool false, .slice B' vs'.length d']
theorem QCi.mk {w0 : World} {b rb y N M : Nat} {s : Bool} {wx : World} {A' B' : Option Addr} {c' d' g' h' : Nat} {ws' vs' : List Nat} {cb cr : List Value} (x : QRi w0 wx b rb y cb cr A' c' g' ws' B' d' h' vs') (h1 : cb = [.bool s, .slice A' ws'.length c']) (h2 : cr = [.bool false, .slice B' vs'.length d'])
    (hn : Norm ws' ∧ natOf ws' = N) (hn2 : Norm vs' ∧ natOf vs' = M) (hg : w0.heap.size ≤ g' ∧ w0.heap.size ≤ h') : QCi w0 b rb y s N M wx := ⟨A', c', g', ws', B', d', h', vs', cb, cr, hn, hn2, hg, x, h1, h2⟩

/-- A law of a world that bears what is done to block b, to blocks from n on, to words and to what is new. -/
structure Kx (b n : Nat) (K : World → Prop) : Prop where
  ext : ∀ a a', K a → Ext a a' → K a'
  two : ∀ y g a a', K a → (y = b ∨ n ≤ y) → Only2 y g a a' → ((∃ cs, Blk a g 167 cs) ∨ a.heap.size ≤ g) → K a'
theorem only2_l {y g : Nat} {a a' : World} (h : Only y a a') : Only2 y g a a' := ⟨h.os, h.tape, h.output, h.size, fun i hi h1 _ => h.block i hi (fun e => h1 (by injection e))⟩
theorem only2_r {y g : Nat} {a a' : World} (h : Only g a a') : Only2 y g a a' := ⟨h.os, h.tape, h.output, h.size, fun i hi _ h1 => h.block i hi (fun e => h1 (by injection e))⟩
theorem Kx.one {b n y : Nat} {K : World → Prop} {a a' : World} (k : Kx b n K) (h : K a) (hy : y = b ∨ n ≤ y) (o : Only y a a') : K a' := k.two y a.heap.size a a' h hy (only2_l o) (Or.inr (Nat.le_refl _))
def QRk (K : World → Prop) (w0 w1 : World) (b rb y : Nat) (cb cr : List Value) (A : Option Addr) (c g : Nat) (ws : List Nat) (B : Option Addr) (d h : Nat) (vs : List Nat) : Prop := QRi w0 w1 b rb y cb cr A c g ws B d h vs ∧ K w1
theorem QRk.setB {K : World → Prop} {n : Nat} {w0 w1 : World} {b rb y c g d h : Nat} {cb cr : List Value} {A B : Option Addr} {ws vs : List Nat} (kx : Kx b n K) (k : QRk K w0 w1 b rb y cb cr A c g ws B d h vs) (hne : b ≠ rb) (hb : w0.heap.size ≤ b) (hy : y ≠ b) (i : Nat) (u : Value) : QRk K w0 (w1.setCell ⟨b, i, none⟩ u) b rb y (cb.set i u) cr A c g ws B d h vs :=
  ⟨k.1.setB hne hb hy i u, kx.one k.2 (Or.inl rfl) ((Only.refl b w1).set_ i u)⟩
theorem QRk.setR {K : World → Prop} {n : Nat} {w0 w1 : World} {b rb y c g d h : Nat} {cb cr : List Value} {A B : Option Addr} {ws vs : List Nat} (kx : Kx b n K) (hn : n ≤ rb) (k : QRk K w0 w1 b rb y cb cr A c g ws B d h vs) (hne : b ≠ rb) (hb : w0.heap.size ≤ rb) (hy : y ≠ rb) (i : Nat) (u : Value) : QRk K w0 (w1.setCell ⟨rb, i, none⟩ u) b rb y cb (cr.set i u) A c g ws B d h vs :=
  ⟨k.1.setR hne hb hy i u, kx.one k.2 (Or.inr hn) ((Only.refl rb w1).set_ i u)⟩
theorem QRk.drew {K : World → Prop} {n : Nat} {w0 w1 : World} {b rb y c g d h : Nat} {cb cr : List Value} {A B : Option Addr} {ws vs : List Nat} (kx : Kx b n K) (k : QRk K w0 w1 b rb y cb cr A c g ws B d h vs) : QRk K w0 w1.drew b rb y cb cr A c g ws B d h vs := ⟨k.1.drew, kx.ext _ _ k.2 (Ext.drewN' _ 1)⟩
def RetQRk (K : World → Prop) (w0 : World) (b rb : Nat) (q r : Int) (e : Ending) (w' : World) : Prop := RetQRw w0 b rb q r e w' ∧ K w'
theorem QRk.fin {K : World → Prop} {w0 w' : World} {b rb y c g d h k k' : Nat} {cb cr : List Value} {A B : Option Addr} {ws vs : List Nat} {t t' s s' : Bool} {q r : Int} (x : QRk K w0 w' b rb y cb cr A c g ws B d h vs) (h1 : cb = [.bool t, .slice A k c]) (h2 : cr = [.bool t', .slice B k' d]) (hb : w0.heap.size ≤ b) (hrb : w0.heap.size ≤ rb) (hg : w0.heap.size ≤ g) (hh : w0.heap.size ≤ h)
    (hk : ws.length = k) (hk' : vs.length = k') (hN : Norm ws) (hN' : Norm vs) (hq : q = bigVal s ws) (hr : r = bigVal s' vs) (ht : t = (decide (0 < k) && s)) (ht' : t' = (decide (0 < k') && s')) : RetQRk K w0 b rb q r (.returned (.tuple #[.pointer (some ⟨b, 0, none⟩), .pointer (some ⟨rb, 0, none⟩)])) w' :=
  ⟨⟨rfl, QRi.fin x.1 h1 h2 hb hrb hg hh hk hk' hN hN' hq hr ht ht'⟩, x.2⟩
def QCk (K : World → Prop) (w0 : World) (b rb y : Nat) (s : Bool) (N M : Nat) (wx : World) : Prop := QCi w0 b rb y s N M wx ∧ K wx
theorem QCk.mk {K : World → Prop} {w0 : World} {b rb y N M : Nat} {s : Bool} {wx : World} {A' B' : Option Addr} {c' d' g' h' : Nat} {ws' vs' : List Nat} {cb cr : List Value} (x : QRk K w0 wx b rb y cb cr A' c' g' ws' B' d' h' vs') (h1 : cb = [.bool s, .slice A' ws'.length c']) (h2 : cr = [.bool false, .slice B' vs'.length d'])
    (hn : Norm ws' ∧ natOf ws' = N) (hn2 : Norm vs' ∧ natOf vs' = M) (hg : w0.heap.size ≤ g' ∧ w0.heap.size ≤ h') : QCk K w0 b rb y s N M wx := ⟨QCi.mk x.1 h1 h2 hn hn2 hg, x.2⟩

set_option maxRecDepth 100000 in
set_option maxHeartbeats 10000000 in
theorem pQuoRemK (K : World → Prop) (n9 : Nat) (w0 w : World) (b rb x' : Nat) (z : Int) (hE : Ext w0 w) (hx : BigF w0 w b z) (hy : BigK w x' T18) (kz : Small z) (hr : Blk w rb 126 [.bool false, .slice none 0 0]) (hrb : w0.heap.size ≤ rb) (hne : b ≠ rb) (hyb : x' ≠ b) (hyr : x' ≠ rb) (kx : Kx b n9 K) (hK : K w) (hnr : n9 ≤ rb) :
    Calls Tryz.prog 140 #[.pointer (some ⟨b, 0, none⟩), .pointer (some ⟨b, 0, none⟩), .pointer (some ⟨x', 0, none⟩), .pointer (some ⟨rb, 0, none⟩)] w (RetQRk K w0 b rb (Int.tdiv z T18) (Int.tmod z T18)) := by
  obtain ⟨hxb, g, c, ⟨hgb, A, xs, s, hbk, hbv, hN, _, rfl⟩, hg⟩ := hx
  obtain ⟨B, d, y, hby, hwy, hNy, hvy⟩ := t18_words hy.at_
  have hy18 : y = 1000000000000000000 := by rw [natOf_one] at hvy; exact hvy
  subst hy18
  obtain ⟨gz, hz, hgz, hgl, hgA⟩ := room_now' hbv
  have l1 := big_len hN kz
  have hbl := hbk.lt; have hxl := hy.lt; have hrl := hr.lt
  have hgw : w0.heap.size ≤ gz := by have := hE.size; rcases hgz with rfl | rfl <;> omega
  have hgy : gz ≠ b ∧ gz ≠ x' ∧ gz ≠ rb := by
    rcases Nat.lt_or_ge gz w.heap.size with h | h
    · have hA := hgA (by omega)
      exact ⟨natv_ne hz hbk hA, natv_ne hz hby hA, natv_ne hz hr hA⟩
    · exact ⟨by omega, by omega, by omega⟩
  obtain ⟨hzb, hzx, hzr⟩ := hgy
  have HKO := Lib.hid (fun w1 (h : Only gz w w1) => kx.two b gz w w1 hK (Or.inl rfl) (only2_r h) (by
    rcases Nat.lt_or_ge gz w.heap.size with h | h
    · have hA := hgA (by omega)
      rcases hz with ⟨h, _⟩ | ⟨_, _, _, full, hf, _⟩
      · exact absurd h hA
      · exact Or.inl ⟨_, hf.1⟩
    · exact Or.inr h))
  have KX := Lib.hid kx
  clear kx hK
  have HD := Lib.hid (fun (W : World) (e : Ext w W) => gDivG A xs.length c gz xs A B c d xs xs.length W (hz.ext e) ((hz.opd gz c (Or.inr rfl)).ext e) rfl (by omega) (hwy.ext e))
  obtain ⟨N, hNe⟩ : ∃ N, N = natOf xs / 1000000000000000000 := ⟨_, rfl⟩
  obtain ⟨M, hMe⟩ : ∃ M, M = natOf xs % 1000000000000000000 := ⟨_, rfl⟩
  have HQ := Lib.hid (show ∀ ws, natOf ws = N → Int.tdiv (bigVal s xs) T18 = bigVal s ws by
    intro ws hw
    have h := quoSign (s := s) (xs := xs) (ys := [1000000000000000000]) (ws := ws) (by rw [hw, hNe, natOf_one])
    rw [natOf_one] at h
    exact h)
  have HR := Lib.hid (show ∀ ws, natOf ws = M → Int.tmod (bigVal s xs) T18 = bigVal s ws by
    intro ws hw
    have h := remSign (s := s) (xs := xs) (ys := [1000000000000000000]) (ws := ws) (by rw [hw, hMe, natOf_one])
    rw [natOf_one] at h
    exact h)
  rw [← hNe, ← hMe] at HD
  have z1 : w.cell? ⟨b, 1, none⟩ = some (.slice A xs.length c) := (hbk.cell 1).trans rfl
  have r1 : w.cell? ⟨rb, 1, none⟩ = some (.slice none 0 0) := (hr.cell 1).trans rfl
  have b1 : w.cell? ⟨x', 1, none⟩ = some (.slice B 1 d) := (hby.cell 1).trans rfl
  have HB := Lib.hid hbk; have HRB := Lib.hid hr; have HY := Lib.hid hby; have HE := Lib.hid hE
  have hne' := hne.symm
  obtain ⟨n, hn⟩ : ∃ n, n = xs.length := ⟨_, rfl⟩
  rw [← hn] at HD z1 HB
  have HN := Lib.hid hn
  have HGZ := Lib.hid hgz; have HGW := Lib.hid hgw; have HSW := Lib.hid hE.size
  clear hbk hbv hz hgA hwy hy hNe hMe hn hby hr hE hgz l1
  go_enter Tryz.func140, Tryz.ntmps140
  go_upto_region 1 with fail
  go_cut [30, 31] (fun s30 s31 wx => QCk K w0 b rb x' s N M wx)
  case first =>
    go_region_law (first | (go_simp; go_at_call 183; refine (HD.out _ (by exact Ext.drewN' _ _)).mono ?_; rintro e w1 ⟨A', c', g', ws', B', d', h', vs', rfl, hn1, hn2, ho, hg', hh'⟩; have HO := Lib.hid (show Only gz w w1 by first | exact ho | exact Only.undrew' ho); have kb := HO.out.block' HB.out (Ne.symm hzb); have kr := HO.out.block' HRB.out (Ne.symm hzr); have ky := HO.out.block' HY.out (Ne.symm hzx); have fz1 := kb.frozen 1; have fy1 := kr.frozen 1; have lb := kb.lt; have lr := kr.lt; have HNN := Lib.hid hn1; have HN2 := Lib.hid hn2; have HGG := Lib.hid (show w0.heap.size ≤ g' ∧ w0.heap.size ≤ h' by have h9 := HGW.out; have h8 := HSW.out; have h7 : w.heap.size ≤ h' := hh'; refine ⟨?_, by omega⟩; rcases hg' with h6 | h6; omega; have h5 : w.heap.size ≤ g' := h6; omega); have HQR := Lib.hid (show QRk K w0 w1 b rb x' [.bool s, .slice A n c] [.bool false, .slice none 0 0] A' c' g' ws' B' d' h' vs' from ⟨⟨kb, kr, hn1.1, hn2.1, Only.ext HE.out HO.out HGW.out, (ky.cell 0).trans rfl⟩, HKO.out w1 HO.out⟩); have z1' : w1.cell? ⟨b, 1, none⟩ = some (.slice A n c) := (kb.cell 1).trans rfl; have y1' : w1.cell? ⟨rb, 1, none⟩ = some (.slice none 0 0) := (kr.cell 1).trans rfl; clear hn1 hn2 ho hg' hh' kb kr ky z1 r1 b1))
    all_goals (go_wp2_with fail; go_meet)
    all_goals (apply QCk.mk (hn := ⟨HNN.out.2.1, HNN.out.2.2⟩) (hn2 := ⟨HN2.out.2.1, HN2.out.2.2⟩) (hg := HGG.out); (· (repeat (with_reducible first | apply QRk.drew (kx := KX.out) | apply QRk.setB (kx := KX.out) (hne := hne) (hb := hxb) (hy := hyb) | apply QRk.setR (kx := KX.out) (hn := hnr) (hne := hne) (hb := hrb) (hy := hyr))); exact HQR.out); (· rfl); (· rfl))
  case rest =>
    obtain ⟨⟨A', c', g', ws', B', d', h', vs', cb, cr, hn1, hn2, hgg, hq, rfl, rfl⟩, hKc⟩ := hcut
    have b0 : wc.cell? ⟨x', 0, none⟩ = some (.bool false) := hq.2.2.2.2.2
    have z0 : wc.cell? ⟨b, 0, none⟩ = some (.bool s) := (hq.1.cell 0).trans rfl
    have z1 : wc.cell? ⟨b, 1, none⟩ = some (.slice A' ws'.length c') := (hq.1.cell 1).trans rfl
    have y0 : wc.cell? ⟨rb, 0, none⟩ = some (.bool false) := (hq.2.1.cell 0).trans rfl
    have y1 : wc.cell? ⟨rb, 1, none⟩ = some (.slice B' vs'.length d') := (hq.2.1.cell 1).trans rfl
    have fz0 := hq.1.frozen 0; have fy0 := hq.2.1.frozen 0
    have lb := hq.1.lt; have lr := hq.2.1.lt
    have HNN := Lib.hid hn1; have HN2 := Lib.hid hn2; have HGG := Lib.hid hgg; have HQR := Lib.hid (show QRk K _ _ _ _ _ _ _ _ _ _ _ _ _ _ _ from ⟨hq, hKc⟩)
    clear hn1 hn2 hgg hq hKc r1 b1
    obtain ⟨k, hk⟩ : ∃ k, ws'.length = k := ⟨_, rfl⟩
    obtain ⟨k2, hk2⟩ : ∃ k, vs'.length = k := ⟨_, rfl⟩
    rw [hk] at z1; rw [hk2] at y1
    have HK := Lib.hid hk; have HK2 := Lib.hid hk2; clear hk hk2
    rw [HK.out, HK2.out] at HQR
    cases s
    all_goals (rcases Nat.eq_zero_or_pos k with h0 | h0)
    all_goals (first | subst h0 | (have hd : (0 : Int) < (k : Int) := by omega))
    all_goals (rcases Nat.eq_zero_or_pos k2 with h2 | h2)
    all_goals (first | subst h2 | (have hd2 : (0 : Int) < (k2 : Int) := by omega))
    all_goals go_wp2_with (fail)
    all_goals go_region
    all_goals go_wp2
    all_goals go_ret2
    all_goals (apply QRk.fin (hb := hxb) (hrb := hrb) (hg := HGG.out.1) (hh := HGG.out.2) (hk := HK.out) (hk' := HK2.out) (hN := HNN.out.1) (hN' := HN2.out.1) (hq := HQ.out _ HNN.out.2) (hr := HR.out _ HN2.out.2); (· (repeat (with_reducible first | apply QRk.drew (kx := KX.out) | apply QRk.setB (kx := KX.out) (hne := hne) (hb := hxb) (hy := hyb) | apply QRk.setR (kx := KX.out) (hn := hnr) (hne := hne) (hb := hrb) (hy := hyr))); exact HQR.out); (· rfl); (· rfl); (· first | rfl | (rw [decide_eq_true h0]; rfl)); (· first | rfl | (rw [decide_eq_true h2]; rfl)))
end Go.Proofs.YtcoffndnfaemoaaGreatDoor
