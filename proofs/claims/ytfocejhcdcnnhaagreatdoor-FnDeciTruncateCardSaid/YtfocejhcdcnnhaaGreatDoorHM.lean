/-
  Division by 10^18 into any receiver, in place too: divWVW, divW, div; big.Int's Quo in place.
  TruncateInt of a decimal.
  NewDecCoinFromDec; DecCoin.TruncateDecimal.
  DecCoins.TruncateDecimal: the whole parts and the rests, each summed by names.
  impl.DecTruncate; the laws' deciWholes.
-/
import Derived.Test.YtfocejhcdcnnhaaGreatDoorGX
import Derived.Test.YtfocejhcdcnnhaaGreatDoorGP
import Derived.Test.YtfocejhcdcnnhaaGreatDoorGR
import Derived.Test.YtfocejhcdcnnhaaGreatDoorHL
import Derived.Test.YtfocejhcdcnnhaaGreatDoorGB
import Derived.Test.YtfocejhcdcnnhaaGreatDoorHK
import Derived.Test.YtfocejhcdcnnhaaGreatDoorGV
import Derived.Deep.DeepCutAuto
import Derived.Test.YtfocejhcdcnnhaaGreatDoorGY
import Derived.Test.YtfocejhcdcnnhaaGreatDoorHE
import Derived.Test.YtfocejhcdcnnhaaGreatDoorHI
import Derived.Test.YtfocejhcdcnnhaaGreatDoorHJ
import Derived.Test.YtfocejhcdcnnhaaGreatDoorGQ
namespace Go.Proofs.YtfocejhcdcnnhaaGreatDoor
open Go Go.RowKit

theorem vDivTA (g c bx ox cx n : Nat) (ws xs : List Nat) (w : World) (hb : WB w g ws) (hl : n ≤ ws.length) (hxl : xs.length = n) (hn1 : 1 ≤ n) (hn : n ≤ 100000) (hc : n ≤ c) (hcx : n ≤ cx) (hsx : Src w g 0 bx ox xs) :
    Calls Tryz.prog 263 #[.slice (some ⟨g, 0, none⟩) n c, .int .u64 0, .slice (some ⟨bx, ox, none⟩) n cx, .int .u64 1000000000000000000] w
      (fun e w' => ∃ ds : List Nat, e = .returned (.int .u64 ((natOf xs % 1000000000000000000 : Nat) : Int)) ∧ ds.length = n ∧ (∀ d ∈ ds, d < B64) ∧ natOf ds = natOf xs / 1000000000000000000 ∧ WB w' g (over ws 0 ds) ∧ Only g w w') := by
  rcases (by omega : n = 1 ∨ 2 ≤ n) with rfl | h2
  · obtain ⟨x, rfl⟩ := List.length_eq_one_iff.1 hxl
    have hcell := hsx.2.1 0 (by simp)
    have hxb := hsx.1 x (by simp)
    rw [Nat.add_zero] at hcell
    rw [natOf_one]
    refine (vDivLow g c bx ox cx x 1000000000000000000 _ _ ws w hb hl hcell rfl rfl hxb (by omega)).mono ?_
    rintro e w' ⟨rfl, k, rfl⟩
    have hq : x / 1000000000000000000 < B64 := Nat.lt_of_le_of_lt (Nat.div_le_self _ _) hxb
    have hs := (hb.drewN k).set_ 0 _ hq
    rw [show ws.set 0 (x / 1000000000000000000) = over ws 0 [x / 1000000000000000000] by have := over_snoc (ws := ws) (o := 0) (ds := []) (x / 1000000000000000000) (by simp; omega); rwa [over_nil] at this] at hs
    exact ⟨[x / 1000000000000000000], rfl, rfl, by simpa using hq, natOf_one _, hs, ((Only.refl g w).drewN k).set_ 0 _⟩
  · exact vDivT g c bx ox cx n ws xs w hb hl hxl h2 hn hc hcx hsx

/-- A quotient in a receiver's room, and a word. -/
def RetQWG (gz N r : Nat) (w : World) (e : Ending) (w' : World) : Prop :=
  ∃ A c g ws, e = .returned (.tuple #[.slice A ws.length c, .int .u64 (r : Int)]) ∧ NatV w' A c g ws ∧ Norm ws ∧ natOf ws = N ∧ Only gz w w' ∧ (g = gz ∨ w.heap.size ≤ g)
set_option maxRecDepth 100000 in
set_option maxHeartbeats 1000000 in
/-- divW by 10^18. -/
theorem gDivWG (A : Option Addr) (n0 cz gz : Nat) (zs : List Nat) (B : Option Addr) (cb : Nat) (xs : List Nat) (m : Nat) (w : World) (hz : NatV w A cz gz zs) (hx : Opd w gz cz B cb xs) (hm : xs.length = m) (hmx : m ≤ 100000) :
    Calls Tryz.prog 235 #[.slice A n0 cz, .slice B m cb, .int .u64 1000000000000000000] w (RetQWG gz (natOf xs / 1000000000000000000) (natOf xs % 1000000000000000000) w) := by
  rcases Nat.eq_zero_or_pos m with h0 | h1
  · subst h0
    have hxs : xs = [] := List.eq_nil_of_length_eq_zero hm
    subst hxs
    have HV := Lib.hid hz.room
    have hcz := hz.room.le
    rcases hz with ⟨rfl, rfl, _⟩ | ⟨rfl, hc, _⟩
    · clear hx hm
      go_enter Tryz.func235, Tryz.ntmps235
      go_wp2
      go_ret2
      exact ⟨_, _, gz, [], by simp [natOf], HV.out, norm_nil, by simp [natOf], Only.refl _ _, Or.inl rfl⟩
    · clear hx hm
      go_enter Tryz.func235, Tryz.ntmps235
      go_wp2
      go_ret2
      exact ⟨_, _, gz, [], by simp [natOf], HV.out, norm_nil, by simp [natOf], Only.refl _ _, Or.inl rfl⟩
  · have hne : xs ≠ [] := by intro e; subst e; simp at hm; omega
    have H := Lib.hid (gMake A n0 cz gz zs m w hz h1 (by omega))
    have HX := Lib.hid hx
    have hcb : m ≤ cb := by have := hx.2.1; omega
    obtain ⟨bx, ox, hB, _⟩ := hx.2.2 hne
    subst hB
    have HL0 := Lib.hid hm; have HNE := Lib.hid hne
    have e0 : ((m : Int) == 0) = false := by simp; omega
    clear hx hm hne hz
    obtain ⟨q, hq⟩ : ∃ q, q = natOf xs / 1000000000000000000 := ⟨_, rfl⟩
    obtain ⟨r, hr⟩ : ∃ r, r = natOf xs % 1000000000000000000 := ⟨_, rfl⟩
    rw [← hq, ← hr]
    have HQ := Lib.hid hq; have HR := Lib.hid hr
    clear hq hr
    go_enter Tryz.func235, Tryz.ntmps235
    go_wp2_with (fail)
    go_at_call 165
    refine H.out.mono ?_
    rintro e w1 ⟨g, c', full, rfl, hc, hb, hl, hmd⟩
    obtain ⟨bx', ox', hA, hsx⟩ := HX.out.src HNE.out hmd
    injection hA with hA; injection hA with t1 t2 t3; subst t1; subst t2; clear t3
    have HC := Lib.hid (vDivTA g c' bx ox cb m full xs w1 hb (by omega) HL0.out h1 hmx hc.1 hcb hsx)
    rw [← HR.out, ← HQ.out] at HC
    have HL := Lib.hid hl; have HM := Lib.hid hmd; have HCC := Lib.hid hc
    clear hb hl hmd hc hsx
    go_wp2_with (fail)
    go_at_call 263
    refine HC.out.mono ?_
    rintro e w2 ⟨ds, rfl, hdl, hdb, hdv, hwb, ho⟩
    have HW := Lib.hid hwb; have HO := Lib.hid ho; have HDV := Lib.hid hdv; have HDL := Lib.hid hdl
    have HN := Lib.hid (natNorm g 0 c' ds m w2 hdl (by omega) HCC.out.1 (wb_cells hwb (by rw [hdl]; have := HL.out; have := HCC.out.1; omega)))
    clear hwb ho hdv hdl hdb
    go_wp2_with (fail)
    go_at_call 168
    refine HN.out.mono ?_
    rintro e w3 ⟨es, rfl, rfl, he, hN2, hve⟩
    have HEN := Lib.hid (norm_end (N := q) HM.out HO.out HW.out HL.out ⟨by have := HCC.out.1; omega, HCC.out.2⟩ (by rw [HDL.out]; have := HCC.out.1; omega) he hN2 hve HDV.out)
    clear he hN2 hve
    go_wp2
    go_ret2
    obtain ⟨A2, c2, g2, ws2, he2, hv2, hn2, hN3, ho2, hg2⟩ := HEN.out
    injection he2 with he2; injection he2 with h1 h2 h3
    subst h1; subst h3
    exact ⟨some ⟨g, 0, none⟩, c', g2, ws2, by rw [← h2]; rfl, hv2, hn2, hN3, ho2, hg2⟩

/-- A quotient in a receiver's room, and a remainder in room of its own. -/
def RetQRG (gz N M : Nat) (w : World) (e : Ending) (w' : World) : Prop :=
  ∃ A c g ws B d h vs, e = .returned (.tuple #[.slice A ws.length c, .slice B vs.length d]) ∧ (NatV w' A c g ws ∧ Norm ws ∧ natOf ws = N) ∧ (NatV w' B d h vs ∧ Norm vs ∧ natOf vs = M) ∧ Only gz w w' ∧ (g = gz ∨ w.heap.size ≤ g) ∧ w.heap.size ≤ h
set_option maxRecDepth 100000 in
/-- div by 10^18, the remainder's receiver nil. -/
theorem gDivG (A : Option Addr) (n0 cz gz : Nat) (zs : List Nat) (B D : Option Addr) (cb cd : Nat) (xs : List Nat) (m : Nat) (w : World) (hz : NatV w A cz gz zs) (hx : Opd w gz cz B cb xs) (hm : xs.length = m) (hmx : m ≤ 100000) (hy : Words w D [1000000000000000000]) :
    Calls Tryz.prog 195 #[.slice A n0 cz, .pointer none, .slice none 0 0, .slice B m cb, .slice D 1 cd] w (RetQRG gz (natOf xs / 1000000000000000000) (natOf xs % 1000000000000000000) w) := by
  obtain ⟨by0, oy, rfl, ⟨cs, hbl⟩, hcell⟩ := hy.2 (by simp)
  have hcy : w.cell? ⟨by0, oy, none⟩ = some (.int .u64 1000000000000000000) := hcell 0 (by simp)
  have H := Lib.hid (gDivWG A n0 cz gz zs B cb xs m w hz hx hm hmx)
  obtain ⟨q, hq⟩ : ∃ q, q = natOf xs / 1000000000000000000 := ⟨_, rfl⟩
  obtain ⟨r, hr⟩ : ∃ r, r = natOf xs % 1000000000000000000 := ⟨_, rfl⟩
  have HRB := Lib.hid (show r < B64 by rw [hr]; exact Nat.lt_trans (Nat.mod_lt _ (by omega)) (show 1000000000000000000 < B64 by unfold B64; omega))
  rw [← hq, ← hr] at H
  rw [← hq, ← hr]
  clear hx hm hy hcell hq hr hmx hz
  go_enter Tryz.func195, Tryz.ntmps195
  go_wp2_with (fail)
  go_at_call 235
  refine H.out.mono ?_
  rintro e w1 ⟨A1, c1, g1, ws, rfl, hR⟩
  have HR := Lib.hid hR; clear hR
  have HS := Lib.hid (gSetWord none 0 0 w1.heap.size [] r w1 (NatV.nil _ _) HRB.out)
  go_wp2_with (fail)
  go_at_call 236
  refine HS.out.mono ?_
  rintro e w2 ⟨A2, c2, g2, vs, rfl, hR2⟩
  have HR2 := Lib.hid hR2; clear hR2
  go_wp2
  go_ret2
  obtain ⟨h1, h2, h3, h4, h5⟩ := HR.out
  obtain ⟨k1, k2, k3, k4, k5⟩ := HR2.out
  have hE := Only.ext (Ext.refl w1) k4 (Nat.le_refl _)
  have hs1 := h4.size
  refine ⟨A1, c1, g1, ws, A2, c2, g2, vs, rfl, ⟨h1.ext hE, h2, h3⟩, ⟨k1, k2, k3⟩, ?_, h5, ?_⟩
  · exact ⟨hE.os.trans h4.os, hE.tape.trans h4.tape, hE.output.trans h4.output, Nat.le_trans h4.size hE.size, fun i hi hne => (hE.block i (Nat.lt_of_lt_of_le hi h4.size)).trans (h4.block i hi hne)⟩
  · rcases k5 with rfl | k5 <;> omega

theorem Only.undrew' {g : Nat} {w w1 : World} (h : Only g w.drew w1) : Only g w w1 := ⟨h.os, h.tape, h.output, h.size, h.block⟩
theorem room_now' {w : World} {A : Option Addr} {c g : Nat} {ws : List Nat} (h : NatV w A c g ws) : ∃ gz, NatV w A c gz ws ∧ (gz = g ∨ gz = w.heap.size) ∧ gz ≤ w.heap.size ∧ (gz ≠ w.heap.size → A ≠ none) := by
  rcases h with ⟨hA, hc, hw⟩ | ⟨hA, hc, hl, full, hf, hr⟩
  · exact ⟨w.heap.size, Or.inl ⟨hA, hc, hw⟩, Or.inr rfl, Nat.le_refl _, fun h => absurd rfl h⟩
  · exact ⟨g, Or.inr ⟨hA, hc, hl, full, hf, hr⟩, Or.inl rfl, Nat.le_of_lt hf.lt, fun _ => by rw [hA]; simp⟩
set_option maxRecDepth 100000 in
set_option maxHeartbeats 4000000 in
/-- Quo by 10^18 in place. -/
theorem pQuoT (b x' g c : Nat) (z : Int) (w : World) (hx : BigV w b g c z) (hy : BigK w x' T18) (kz : Small z) (_ : x' ≠ b) (hxg : x' ≠ g) :
    Calls Tryz.prog 174 #[.pointer (some ⟨b, 0, none⟩), .pointer (some ⟨b, 0, none⟩), .pointer (some ⟨x', 0, none⟩)] w (RetIP b g (Int.tdiv z T18) w) := by
  obtain ⟨hgb, A, xs, s, hbk, hbv, hN, _, rfl⟩ := hx
  obtain ⟨B, d, y, hby, hwy, hNy, hvy⟩ := t18_words hy.at_
  have hy18 : y = 1000000000000000000 := by rw [natOf_one] at hvy; exact hvy
  subst hy18
  obtain ⟨gz, hz, hgz, hgl, hgA⟩ := room_now' hbv
  have l1 := big_len hN kz
  have hbl := hbk.lt; have hxl := hy.lt
  have hzb : gz ≠ b := by rcases hgz with rfl | rfl <;> omega
  have hzx : gz ≠ x' := by rcases hgz with rfl | rfl <;> omega
  have HD := Lib.hid (fun (W : World) (e : Ext w W) => gDivG A xs.length c gz xs A B c d xs xs.length W (hz.ext e) ((hz.opd gz c (Or.inr rfl)).ext e) rfl (by omega) (hwy.ext e))
  obtain ⟨N, hNe⟩ : ∃ N, N = natOf xs / 1000000000000000000 := ⟨_, rfl⟩
  have HQ := Lib.hid (show ∀ ws, natOf ws = N → Int.tdiv (bigVal s xs) T18 = bigVal s ws by
    intro ws hw
    have h := quoSign (s := s) (xs := xs) (ys := [1000000000000000000]) (ws := ws) (by rw [hw, hNe, natOf_one])
    rw [natOf_one] at h
    exact h)
  rw [← hNe] at HD
  have z0 : w.cell? ⟨b, 0, none⟩ = some (.bool s) := (hbk.cell 0).trans rfl
  have z1 : w.cell? ⟨b, 1, none⟩ = some (.slice A xs.length c) := (hbk.cell 1).trans rfl
  have y0 : w.cell? ⟨x', 0, none⟩ = some (.bool false) := (hby.cell 0).trans rfl
  have y1 : w.cell? ⟨x', 1, none⟩ = some (.slice B 1 d) := (hby.cell 1).trans rfl
  have HB := Lib.hid hbk; have HY := Lib.hid hby
  obtain ⟨n, hn⟩ : ∃ n, n = xs.length := ⟨_, rfl⟩
  rw [← hn] at HD z1 HB
  have HGZ := Lib.hid hgz
  clear hbk hbv hz hgA hwy hy hNe hn hby
  cases s
  all_goals
    go_enter Tryz.func174, Tryz.ntmps174
    go_wp2
    go_region_law (first | (go_simp; go_at_call 195; refine (HD.out _ (by exact Ext.drewN' _ _)).mono ?_; rintro e w1 ⟨A', c', g', ws', B', d', h', vs', rfl, hn1, hn2, ho, hg', hh'⟩; have HO := Lib.hid (show Only gz w w1 by first | exact ho | exact Only.undrew' ho); have kb := HO.out.block' HB.out (Ne.symm hzb); have ky := HO.out.block' HY.out (Ne.symm hzx); have z0' : w1.cell? ⟨b, 0, none⟩ = some _ := kb.cell 0; have z1' : w1.cell? ⟨b, 1, none⟩ = some _ := kb.cell 1; have y0' : w1.cell? ⟨x', 0, none⟩ = some _ := ky.cell 0; have fz1 := kb.frozen 1; have fz0 := kb.frozen 0; have HN1 := Lib.hid hn1; have HG := Lib.hid (show g' = gz ∨ w.heap.size ≤ g' from hg'); have KB := Lib.hid kb; clear hn1 hn2 ho hg' hh' kb ky))
    all_goals go_wp2
    all_goals (obtain ⟨k, hk⟩ : ∃ k, ws'.length = k := ⟨_, rfl⟩)
    all_goals (rw [hk])
    all_goals (have HK := Lib.hid hk; clear hk)
    all_goals (rcases Nat.eq_zero_or_pos k with h0 | h0)
    all_goals (first | subst h0 | (have hd : (0 : Int) < (k : Int) := by omega))
    all_goals go_region
    all_goals go_wp2
    all_goals go_ret
    all_goals exact RetBV.place ⟨rfl, endV_drew (endV HB.out hzb HO.out HN1.out.1 HG.out HN1.out.2.1 HK.out (HQ.out _ HN1.out.2.2) _ (by first | rfl | (rw [decide_eq_true h0]; rfl)))⟩ HGZ.out
end Go.Proofs.YtfocejhcdcnnhaaGreatDoor

namespace Go.Proofs.YtfocejhcdcnnhaaGreatDoor
open Go Go.RowKit

set_option maxRecDepth 100000 in
set_option maxHeartbeats 1000000 in
/-- chopPrecisionAndTruncate of a number that is wholly newer than w0. -/
theorem cChopT (w0 w : World) (x : Nat) (z : Int) (hE : Ext w0 w) (hx : BigF w0 w x z) (kz : Small z) (hT : Thr w0) :
    Calls Tryz.prog 160 #[.pointer (some ⟨x, 0, none⟩)] w (fun e w' => e = .returned (.tuple #[]) ∧ BigF w0 w' x (Int.tdiv z T18) ∧ Ext w0 w') := by
  obtain ⟨hxb, g, c, hv, hg⟩ := hx
  have hxl := hv.k.lt
  have HV := Lib.hid hv; have HE := Lib.hid hE; have HT := Lib.hid (hT.ext hE)
  have hs0 := hE.size
  clear hv hE hT
  go_enter Tryz.func160, Tryz.ntmps160
  go_wp2_with (fail)
  go_at_call 173
  refine (dPrec w HT.out).mono ?_
  rintro e w1 ⟨p1, rfl, h1, x1⟩
  obtain ⟨g3, hv3, hg3⟩ := HV.out.renew x1
  have hp1 := h1.1
  have hpl := h1.k.lt
  have hs1 := x1.size
  have n1 : p1 ≠ x := by omega
  have n2 : p1 ≠ g3 := by rcases hg3 with ⟨rfl, h⟩ | rfl <;> omega
  have hgw : w0.heap.size ≤ g3 := by rcases hg3 with ⟨rfl, _⟩ | rfl <;> omega
  have HQ := Lib.hid (pQuoT x p1 g3 c z w1 hv3 h1.k kz n1 n2)
  have HE1 := Lib.hid (HE.out.trans' x1)
  clear hv3 hg3 h1 x1 n1 n2 hp1 hpl
  go_wp2_with (fail)
  go_at_call 174
  refine HQ.out.mono ?_
  rintro e w2 ⟨rfl, g', c', hv', hg', ho⟩
  have hE4 : Ext w0 w2 := ho.ext HE1.out hxb hgw
  have HR := Lib.hid (show BigF w0 w2 x (Int.tdiv z T18) ∧ Ext w0 w2 from ⟨⟨hxb, g', c', hv', by have := HE1.out.size; rcases hg' with rfl | h <;> omega⟩, hE4⟩)
  clear hv' hg' ho hE4
  go_wp2
  go_end0
  exact ⟨rfl, HR.out⟩
set_option maxRecDepth 100000 in
theorem cChopTN (x : Nat) (z : Int) (w : World) (hx : BigK w x z) (kz : Small z) (hT : Thr w) :
    Calls Tryz.prog 189 #[.pointer (some ⟨x, 0, none⟩)] w (RetPK (Int.tdiv z T18) w) := by
  have HB := Lib.hid (new0 w); have HX := Lib.hid (hx.ext (ext1 w (.cells #[.bool false, .slice none 0 0] 120))); have HT := Lib.hid hT; have KZ := Lib.hid kz
  have hxl := hx.lt
  clear hx hT kz
  go_enter Tryz.func189, Tryz.ntmps189
  go_wp2_with (fail)
  go_at_call 182
  refine (vSet w.heap.size x z _ HX.out (by omega) HB.out KZ.out).mono ?_
  rintro e w1 h1
  obtain ⟨b, rfl, hf, x1⟩ := h1.fin (ext1 _ _) (Nat.le_refl _)
  have HC := Lib.hid (cChopT w w1 b z x1 hf KZ.out HT.out)
  clear h1 hf x1
  go_wp2_with (fail)
  go_at_call 160
  refine HC.out.mono ?_
  rintro e w2 ⟨rfl, hf, hE⟩
  have HR := Lib.hid (And.intro hf hE); clear hf hE
  go_wp2
  go_ret
  exact ⟨b, rfl, HR.out⟩
set_option maxRecDepth 100000 in
theorem mFromBigMut (x : Nat) (z : Int) (w : World) (hx : BigK w x z) (hz : z.natAbs < B64) :
    Calls Tryz.prog 188 #[.pointer (some ⟨x, 0, none⟩)] w (RetE (.agg #[.pointer (some ⟨x, 0, none⟩)]) w) := by
  have k0 := Lib.hid (blk_new0 w 137 [.pointer none])
  have H := Lib.hid (cOverflows (.pointer (some ⟨x, 0, none⟩)) z _ ((hx.ext (ext1 w (.cells #[.pointer none] 137))).at_.big) hz)
  have hp : ∀ (W : World) (r : Nat), (binOp .eql 75 (.pointer (some ⟨r, 0, none⟩)) (.pointer none)).run Tryz.prog W = .ok (.bool false) W := fun _ _ => by kernel_rfl
  clear hx hz
  have c0 := k0.out.cell 0; have fz := k0.out.frozen 0
  go_enter Tryz.func188, Tryz.ntmps188
  go_wp2_with (go_at_call 232; refine H.out.mono ?_; rintro e w' ⟨rfl, rfl⟩)
  exact bodyPost_ret (v := .agg #[.pointer (some ⟨x, 0, none⟩)]) (by simp [results, Tryz.results188, go_sem]) rfl ⟨rfl, ext1 _ _⟩
set_option maxRecDepth 100000 in
theorem dTruncInt (x : Nat) (z : Int) (w : World) (hx : BigK w x z) (kz : Small z) (hq : (Int.tdiv z T18).natAbs < B64) (hT : Thr w) :
    Calls Tryz.prog 145 #[.agg #[.pointer (some ⟨x, 0, none⟩)]] w (RetIK (Int.tdiv z T18) w) := by
  have E2 := Lib.hid (ext2 w (decBox x) (.cells #[.pointer none] 137))
  have k1 := Lib.hid (blk_new1 w (decBox x) 137 [.pointer none])
  have HC := Lib.hid (cChopTN x z _ (hx.ext E2.out) kz (hT.ext E2.out))
  have HQ := Lib.hid hq
  obtain ⟨q, hqq⟩ : ∃ q, q = Int.tdiv z T18 := ⟨_, rfl⟩
  rw [← hqq] at HC HQ ⊢
  clear hx kz hq hT hqq
  go_enter Tryz.func145, Tryz.ntmps145
  go_wp2_with (fail)
  go_at_call 189
  refine HC.out.mono ?_
  rintro e w1 ⟨b, rfl, hf, x1⟩
  have HM := Lib.hid (mFromBigMut b q w1 hf.k HQ.out)
  have HK := Lib.hid hf.k; have HE1 := Lib.hid x1
  clear hf x1
  go_wp2_with (fail)
  go_at_call 188
  refine HM.out.mono ?_
  rintro e w2 ⟨rfl, x2⟩
  have hk := k1.out.ext (HE1.out.trans' x2)
  have c0 : w2.cell? ⟨w.heap.size + 1, 0, none⟩ = some (.pointer none) := (hk.cell 0).trans rfl
  have fz := hk.frozen 0
  have HF := Lib.hid (fun v => And.intro ((HK.out.ext x2).set_ hk 0 v) (Only.ext ((E2.out.trans' HE1.out).trans' x2) ((Only.refl (w.heap.size + 1) w2).set_ 0 v) (by omega)))
  clear hk x2
  go_wp2
  exact bodyPost_ret (v := .agg #[.pointer (some ⟨b, 0, none⟩)]) (by simp [results, Tryz.results145, go_sem, c0]) rfl ⟨b, rfl, HF.out _⟩
end Go.Proofs.YtfocejhcdcnnhaaGreatDoor

namespace Go.Proofs.YtfocejhcdcnnhaaGreatDoor
open Go Go.RowKit

set_option maxRecDepth 100000 in
set_option maxHeartbeats 1000000 in
theorem tdFromDec (s : ByteArray) (b : Nat) (z : Int) (w : World) (h : BigK w b z) (hs : denomB s = true) (hz : 0 ≤ z) (hsz : s.size ≤ 9223372036854775807) :
    Calls Tryz.prog 148 #[.string s, .agg #[.pointer (some ⟨b, 0, none⟩)]] w (fun e w' => e = .returned (dcV s b) ∧ BigK w' b z ∧ Ext w w') := by
  have k0 := Lib.hid ((blk_new0 w 77 [.pointer (some ⟨b, 0, none⟩)]).alloc (.cells #[.string ByteArray.empty, .pointer none] 106))
  have k1 := Lib.hid (blk_new1 w (decBox b) 106 [.string ByteArray.empty, .pointer none])
  have E2 := Lib.hid (ext2 w (decBox b) (.cells #[.string ByteArray.empty, .pointer none] 106))
  have HV := Lib.hid (fun W => dValidGood hsz hs W)
  have HN := Lib.hid (dIsNegative b z _ (h.ext E2.out))
  rw [sgn_nonneg hz] at HN
  have HB := Lib.hid (h.ext E2.out)
  clear h hz hsz hs
  go_enter Tryz.func148, Tryz.ntmps148
  go_wp2_with (fail)
  go_at_call 106
  refine (HV.out _).mono ?_
  rintro e w0 ⟨rfl, rfl⟩
  have c0 := k0.out.cell 0
  go_wp2_with (fail)
  go_at_call 144
  refine HN.out.mono ?_
  rintro e w1 ⟨rfl, hE⟩
  have HE := Lib.hid hE
  have kk := k0.out.ext hE; have kk1 := k1.out.ext hE
  have d0 : w1.cell? ⟨w.heap.size, 0, none⟩ = some (.pointer (some ⟨b, 0, none⟩)) := (kk.cell 0).trans rfl
  have a0 : w1.cell? ⟨w.heap.size + 1, 0, none⟩ = some (.string ByteArray.empty) := (kk1.cell 0).trans rfl
  have a1 : w1.cell? ⟨w.heap.size + 1, 1, none⟩ = some (.pointer none) := (kk1.cell 1).trans rfl
  have f0 := kk1.frozen 0; have f1 := kk1.frozen 1
  have l0 := cell_lt d0; have l1 := cell_lt a0
  have KK := Lib.hid kk1
  clear hE kk kk1 c0
  go_wp2
  exact bodyPost_ret (v := dcV s b) (by simp [results, Tryz.results148, go_sem, a0, a1]) rfl ⟨rfl, ((HB.out.ext HE.out).set_ KK.out 0 _).set_ (KK.out.set_ 0 _) 1 _, Only.ext (E2.out.trans' HE.out) (((Only.refl _ _).set_ 0 _).set_ 1 _) (by omega)⟩

/-- A coin and a decimal coin handed back. -/
def RetTD (s : ByteArray) (q y : Int) (w : World) (e : Ending) (w' : World) : Prop := ∃ r p, e = .returned (.tuple #[coinV s r, dcV s p]) ∧ BigAt w' r q ∧ BigK w' p y ∧ Ext w w'
/-- The box of the rest. -/
def TBox (W : World) (y : Int) (u : Value) (wx : World) : Prop := ∃ g p, u = .pointer (some ⟨g, 0, none⟩) ∧ Blk wx g 77 [.pointer (some ⟨p, 0, none⟩)] ∧ BigK wx p y ∧ Ext W wx ∧ W.heap.size ≤ g
abbrev coinZ : Obj := .cells #[.string ByteArray.empty, .pointer none] 139
abbrev dcoinZ : Obj := .cells #[.string ByteArray.empty, .pointer none] 106
abbrev dzBox : Obj := .cells #[.pointer none] 77
theorem tzG0 (W : World) : Ext W W.drew := Ext.drewN' _ 1
theorem tzG1 (W : World) : Ext W (W.alloc dzBox).drew := (ext1 _ _).trans' (Ext.drewN' _ 1)
theorem tzG2 (W : World) : Ext W W := Ext.refl _
theorem tzG3 (W : World) : Ext W (W.alloc dzBox) := ext1 _ _
theorem tzE0 {W w1 : World} (h : Ext W.drew w1) : Ext W w1 := Ext.undrew h
theorem tzE1 {W w1 : World} (h : Ext (W.alloc dzBox).drew w1) : Ext W w1 := (ext1 _ _).trans' (Ext.undrew h)
theorem tzF1 {W w1 : World} (h : Ext (W.alloc dzBox) w1) : Ext W w1 := (ext1 _ _).trans' h
theorem tzN1 {W w1 : World} (h : Ext (W.alloc dzBox) w1) : Blk w1 W.heap.size 77 [.pointer none] := (blk_new0 W _ [.pointer none]).ext h
theorem tzM1 {W w1 : World} (h : Ext (W.alloc dzBox).drew w1) : Blk w1 W.heap.size 77 [.pointer none] := tzN1 (Ext.undrew h)
/-- The cells that the regions of TruncateDecimal read. -/
def DJ2 (n g b r : Nat) (w' : World) : Prop := w'.cell? ⟨n, 1, none⟩ = some (.pointer (some ⟨b, 0, none⟩)) ∧ w'.cell? ⟨g, 0, none⟩ = some (.pointer (some ⟨r, 0, none⟩))
theorem DJ2.ext {n g b r : Nat} {w w' : World} (h : DJ2 n g b r w) (e : Ext w w') : DJ2 n g b r w' := ⟨e.cell' h.1, e.cell' h.2⟩
theorem DJ2.drew {n g b r : Nat} {w : World} (h : DJ2 n g b r w) : DJ2 n g b r w.drew := h
theorem DJ2.alloc {n g b r : Nat} {w : World} (h : DJ2 n g b r w) (o : Obj) : DJ2 n g b r (w.alloc o) := h.ext (Ext.alloc' _ _)
theorem DJ2.set1 {n g b r q : Nat} {w : World} {u : Value} (h : DJ2 n g b r w) (h1 : n ≠ q) (h2 : g ≠ q) : DJ2 n g b r (w.setCell ⟨q, 0, none⟩ u) := ⟨set_far h.1 h1, set_far h.2 h2⟩
def DJ3 (n g h' : Nat) (s : ByteArray) (r p : Nat) (w' : World) : Prop := w'.cell? ⟨n, 0, none⟩ = some (.string s) ∧ w'.cell? ⟨g, 0, none⟩ = some (.pointer (some ⟨r, 0, none⟩)) ∧ w'.cell? ⟨h', 0, none⟩ = some (.pointer (some ⟨p, 0, none⟩))
theorem DJ3.ext {n g h' r p : Nat} {s : ByteArray} {w w' : World} (h : DJ3 n g h' s r p w) (e : Ext w w') : DJ3 n g h' s r p w' := ⟨e.cell' h.1, e.cell' h.2.1, e.cell' h.2.2⟩
theorem DJ3.drew {n g h' r p : Nat} {s : ByteArray} {w : World} (h : DJ3 n g h' s r p w) : DJ3 n g h' s r p w.drew := h
theorem DJ3.set2 {n g h' r p q : Nat} {s : ByteArray} {w : World} {u v : Value} (h : DJ3 n g h' s r p w) (h1 : n ≠ q) (h2 : g ≠ q) (h3 : h' ≠ q) : DJ3 n g h' s r p ((w.setCell ⟨q, 0, none⟩ u).setCell ⟨q, 1, none⟩ v) := ⟨set_far (set_far h.1 h1) h1, set_far (set_far h.2.1 h2) h2, set_far (set_far h.2.2 h3) h3⟩
theorem tbox_new {W w2 : World} {p : Nat} {y : Int} (hB : BigK w2 p y) (hE : Ext W w2) : TBox W y (.pointer (some ⟨w2.heap.size, 0, none⟩)) (w2.alloc (decBox p)) :=
  ⟨_, p, rfl, Blk.new _ _ _, hB.ext (ext1 _ _), hE.trans' (ext1 _ _), hE.size⟩
theorem tbox_set {W w2 : World} {g p : Nat} {y : Int} {v : Value} (hk : Blk w2 g 77 [v]) (hg : W.heap.size ≤ g) (hB : BigK w2 p y) (hE : Ext W w2) : TBox W y (.pointer (some ⟨g, 0, none⟩)) (w2.setCell ⟨g, 0, none⟩ (.pointer (some ⟨p, 0, none⟩))) :=
  ⟨g, p, rfl, hk.set_ 0 _, hB.set_ hk 0 _, Only.ext hE ((Only.refl _ _).set_ 0 _) hg, hg⟩

theorem four_done {w w5 : World} {n1 n2 : Nat} {t1 t2 : TypeId} {cs1 cs2 : List Value} {r p : Nat} {q y : Int} (hE : Ext w w5) (h1 : w.heap.size ≤ n1) (h2 : w.heap.size ≤ n2) (hne : n2 ≠ n1) (k1 : Blk w5 n1 t1 cs1) (k2 : Blk w5 n2 t2 cs2) (hR : BigAt w5 r q) (hY : BigK w5 p y) (a b c d : Value)
    (e1 : 158 ≠ t1 := by decide) (e2 : 120 ≠ t1 := by decide) (e3 : 158 ≠ t2 := by decide) (e4 : 120 ≠ t2 := by decide) :
    BigAt ((((w5.setCell ⟨n1, 0, none⟩ a).setCell ⟨n1, 1, none⟩ b).setCell ⟨n2, 0, none⟩ c).setCell ⟨n2, 1, none⟩ d) r q ∧ BigK ((((w5.setCell ⟨n1, 0, none⟩ a).setCell ⟨n1, 1, none⟩ b).setCell ⟨n2, 0, none⟩ c).setCell ⟨n2, 1, none⟩ d) p y ∧ Ext w ((((w5.setCell ⟨n1, 0, none⟩ a).setCell ⟨n1, 1, none⟩ b).setCell ⟨n2, 0, none⟩ c).setCell ⟨n2, 1, none⟩ d) := by
  have ho := ((Only.refl n1 w5).set_ 0 a).set_ 1 b
  have k2' := ho.block' k2 hne
  have hR1 := (hR.set_ k1 0 a e1 e2).set_ (k1.set_ 0 a) 1 b e1 e2
  have hY1 := (hY.set_ k1 0 a e1 e2).set_ (k1.set_ 0 a) 1 b e1 e2
  exact ⟨(hR1.set_ k2' 0 c e3 e4).set_ (k2'.set_ 0 c) 1 d e3 e4, (hY1.set_ k2' 0 c e3 e4).set_ (k2'.set_ 0 c) 1 d e3 e4, Only.ext (Only.ext hE ho h1) (((Only.refl n2 _).set_ 0 c).set_ 1 d) h2⟩

set_option maxRecDepth 100000 in
set_option maxHeartbeats 4000000 in
theorem tdTruncOne (s : ByteArray) (b : Nat) (z : Int) (w : World) (h : BigK w b z) (hs : denomB s = true) (h0 : 0 ≤ z) (kz : Small z) (hq : (Int.tdiv z T18).natAbs < B64) (ks : Small (Int.tdiv z T18 * T18)) (hr : InR (z - Int.tdiv z T18 * T18)) (h1 : 0 ≤ z - Int.tdiv z T18 * T18) (hsz : s.size ≤ 9223372036854775807) (hT : Thr w) :
    Calls Tryz.prog 113 #[dcV s b] w (RetTD s (Int.tdiv z T18) (z - Int.tdiv z T18 * T18) w) := by
  have k0 := Lib.hid (((blk_new0 w 106 [.string s, .pointer (some ⟨b, 0, none⟩)]).alloc coinZ).alloc dcoinZ)
  have k1 := Lib.hid ((blk_new1 w (dcBox s b) 139 [.string ByteArray.empty, .pointer none]).alloc dcoinZ)
  have k2 := Lib.hid (blk_new2 w (dcBox s b) coinZ 106 [.string ByteArray.empty, .pointer none])
  have E3 := Lib.hid (ext3 w (dcBox s b) coinZ dcoinZ)
  have HB := Lib.hid h; have HT := Lib.hid hT
  have hq0 : 0 ≤ Int.tdiv z T18 := Int.tdiv_nonneg h0 (by unfold T18; omega)
  have HTI := Lib.hid (fun (W : World) (e : Ext w W) => dTruncInt b z W (h.ext e) kz hq (hT.ext e))
  obtain ⟨q, hqq⟩ : ∃ q, q = Int.tdiv z T18 := ⟨_, rfl⟩
  rw [← hqq] at HTI hq ks hr h1 hq0 ⊢
  obtain ⟨y, hyy⟩ : ∃ y, y = z - q * T18 := ⟨_, rfl⟩
  rw [← hyy] at h1 hr ⊢
  have HF := Lib.hid (fun (W : World) (e : Ext w W) (r : Nat) (hr : BigK W r q) => dFromInt r q W hr (small_m q (by have : B64 ≤ B64 * B64 := Nat.le_mul_of_pos_right _ B64_pos; omega)) (hT.ext e))
  have HS := Lib.hid (fun (W : World) (e : Ext w W) (r : Nat) (hk : BigK W r (q * T18)) => (show Calls Tryz.prog 146 #[.agg #[.pointer (some ⟨b, 0, none⟩)], .agg #[.pointer (some ⟨r, 0, none⟩)]] W (RetDK y W) by rw [hyy]; exact dSub b r z (q * T18) W (h.ext e) hk kz ks (by rw [← hyy]; exact hr) (hT.ext e)))
  have HC := Lib.hid (fun (W : World) (r : Nat) (hk : BigAt W r q) => tNewCoin s r q W hk hs hq0 hsz)
  have HD := Lib.hid (fun (W : World) (p : Nat) (hk : BigK W p y) => tdFromDec s p y W hk hs h1 hsz)
  clear h hs h0 kz hq ks hr h1 hsz hT hq0 hqq hyy
  go_enter Tryz.func113, Tryz.ntmps113
  go_wp2_with (fail)
  go_at_call 145
  refine (HTI.out _ E3.out).mono ?_
  rintro e w1 ⟨r, rfl, hB, hE⟩
  obtain ⟨W, hW⟩ : ∃ W, W = w1.alloc (intBox r) := ⟨_, rfl⟩
  obtain ⟨gi, hgi⟩ : ∃ gi, gi = w1.heap.size := ⟨_, rfl⟩
  have EW := Lib.hid (show Ext w W by rw [hW]; exact (E3.out.trans' hE).trans' (ext1 _ _))
  have K0 := Lib.hid (show Blk W w.heap.size 106 [.string s, .pointer (some ⟨b, 0, none⟩)] by rw [hW]; exact (k0.out.ext hE).alloc _)
  have K1 := Lib.hid (show Blk W (w.heap.size + 1) 139 [.string ByteArray.empty, .pointer none] by rw [hW]; exact (k1.out.ext hE).alloc _)
  have K2 := Lib.hid (show Blk W (w.heap.size + 2) 106 [.string ByteArray.empty, .pointer none] by rw [hW]; exact (k2.out.ext hE).alloc _)
  have KI := Lib.hid (show Blk W gi 137 [.pointer (some ⟨r, 0, none⟩)] by rw [hW, hgi]; exact blk_new0 w1 _ [.pointer (some ⟨r, 0, none⟩)])
  have HR := Lib.hid (show BigK W r q by rw [hW]; exact hB.ext (ext1 _ _))
  have HWW := Lib.hid hW; have HGI := Lib.hid hgi
  clear hW hgi hB hE k0 k1 k2 HTI
  go_upto_region 2 with fail
  rw [← HWW.out, ← HGI.out]
  have a0 : W.cell? ⟨w.heap.size, 0, none⟩ = some (.string s) := (K0.out.cell 0).trans rfl
  have a1 : W.cell? ⟨w.heap.size, 1, none⟩ = some (.pointer (some ⟨b, 0, none⟩)) := (K0.out.cell 1).trans rfl
  have i0 : W.cell? ⟨gi, 0, none⟩ = some (.pointer (some ⟨r, 0, none⟩)) := (KI.out.cell 0).trans rfl
  have la := cell_lt a0; have li := cell_lt i0
  go_cut [5] (fun s5 wx => TBox W y s5 wx)
  case first =>
    have KS0 := Lib.hid (show DJ2 w.heap.size gi b r W from ⟨a1, i0⟩)
    have KS0d := Lib.hid (show DJ2 w.heap.size gi b r W.drew from KS0.out)
    clear a0
    go_region_held3 (fun w' => w'.cell? ⟨w.heap.size, 1, none⟩ = some (.pointer (some ⟨b, 0, none⟩)) ∧ w'.cell? ⟨gi, 0, none⟩ = some (.pointer (some ⟨r, 0, none⟩))) ((show DJ2 w.heap.size gi b r _; (repeat (first | (with_reducible refine DJ2.drew ?_) | (with_reducible refine DJ2.alloc ?_ _) | (with_reducible refine DJ2.set1 ?_ ?_ ?_; rotate_left; omega; omega))); with_reducible first | exact KS2.out | exact KS1.out | exact KS0d.out | exact KS0.out)) (first | (go_at_call 134; (with_reducible refine (HF.out _ (EW.out.trans' (by with_reducible first | exact tzG0 _ | exact tzG1 _)) r (HR.out.ext (by with_reducible first | exact tzG0 _ | exact tzG1 _))).mono ?_); rintro e w2 ⟨p, rfl, hB, hE⟩; have HE2 := Lib.hid (show Ext W w2 by with_reducible first | exact tzE0 hE | exact tzE1 hE); have HP := Lib.hid hB.k; have KS1 := Lib.hid (KS0.out.ext HE2.out); have sz1 := HE2.out.size; (try ((with_reducible have KA := Lib.hid (tzM1 hE)); have lA := KA.out.lt; have pA : ¬ W.heap.size = w2.heap.size := (by omega); have pA' : ¬ w2.heap.size = W.heap.size := (by omega))); clear hB hE a1 i0) | (go_at_call 146; (with_reducible refine (HS.out _ ((EW.out.trans' HE2.out).trans' (by with_reducible first | exact tzG2 _ | exact tzG3 _)) p (HP.out.ext (by with_reducible first | exact tzG2 _ | exact tzG3 _))).mono ?_); rintro e w3 ⟨p3, rfl, hB, hE⟩; have HE23 := Lib.hid (show Ext w2 w3 by with_reducible first | exact hE | exact tzF1 hE); have HE3 := Lib.hid (HE2.out.trans' HE23.out); have HY := Lib.hid hB.k; have KS2 := Lib.hid (KS1.out.ext HE23.out); have sz2 := HE23.out.size; (try (have K5 := Lib.hid (KA.out.ext HE23.out); have l5 := K5.out.lt; have q5 : w3.cell? ⟨W.heap.size, 0, none⟩ = some (.pointer none) := (K5.out.cell 0).trans rfl; have f5 := K5.out.frozen 0)); (try ((with_reducible have K7 := Lib.hid (tzN1 hE)); have l7 := K7.out.lt; have q7 : w3.cell? ⟨w2.heap.size, 0, none⟩ = some (.pointer none) := (K7.out.cell 0).trans rfl; have f7 := K7.out.frozen 0)); clear hB hE))
    all_goals (go_wp2_with fail; go_meet)
    all_goals first | with_reducible exact tbox_new HY.out HE3.out | with_reducible exact tbox_set K5.out (by omega) HY.out HE3.out | with_reducible exact tbox_set K7.out (by omega) HY.out HE3.out
  case rest =>
    obtain ⟨g, p, rfl, hk, hB, hE, hg⟩ := hcut
    have KG := Lib.hid hk; have HY := Lib.hid hB; have HEC := Lib.hid hE
    clear hk hB hE
    have KC0 := Lib.hid (K0.out.ext HEC.out); have KC1 := Lib.hid (K1.out.ext HEC.out); have KC2 := Lib.hid (K2.out.ext HEC.out); have KCI := Lib.hid (KI.out.ext HEC.out); have HRC := Lib.hid (HR.out.ext HEC.out)
    have EC := Lib.hid (EW.out.trans' HEC.out)
    clear a0 a1 i0 la li K0 K1 K2 KI
    have a0 : wc.cell? ⟨w.heap.size, 0, none⟩ = some (.string s) := (KC0.out.cell 0).trans rfl
    have a1 : wc.cell? ⟨w.heap.size, 1, none⟩ = some (.pointer (some ⟨b, 0, none⟩)) := (KC0.out.cell 1).trans rfl
    have i0 : wc.cell? ⟨gi, 0, none⟩ = some (.pointer (some ⟨r, 0, none⟩)) := (KCI.out.cell 0).trans rfl
    have g0 : wc.cell? ⟨g, 0, none⟩ = some (.pointer (some ⟨p, 0, none⟩)) := (KG.out.cell 0).trans rfl
    have la := cell_lt a0; have li := cell_lt i0; have lg := cell_lt g0
    go_upto_region 3 with fail
    have KT0 := Lib.hid (show DJ3 w.heap.size gi g s r p wc from ⟨a0, i0, g0⟩)
    have KT0d := Lib.hid (show DJ3 w.heap.size gi g s r p wc.drew from KT0.out)
    have ni1 : gi ≠ w.heap.size + 1 := KCI.out.ne KC1.out (by decide); have ni2 : gi ≠ w.heap.size + 2 := KCI.out.ne KC2.out (by decide)
    have ng1 : g ≠ w.heap.size + 1 := KG.out.ne KC1.out (by decide); have ng2 : g ≠ w.heap.size + 2 := KG.out.ne KC2.out (by decide)
    have l1 := KC1.out.lt; have l2 := KC2.out.lt
    clear a1
    go_region_held3 (fun w' => w'.cell? ⟨w.heap.size, 0, none⟩ = some (.string s) ∧ w'.cell? ⟨gi, 0, none⟩ = some (.pointer (some ⟨r, 0, none⟩)) ∧ w'.cell? ⟨g, 0, none⟩ = some (.pointer (some ⟨p, 0, none⟩))) ((show DJ3 w.heap.size gi g s r p _; (repeat (first | (with_reducible refine DJ3.drew ?_) | (with_reducible refine DJ3.set2 ?_ ?_ ?_ ?_; rotate_left; omega; omega; omega))); with_reducible first | exact KT2.out | exact KT1.out | exact KT0d.out | exact KT0.out)) (first | (go_at_call 147; (with_reducible refine (HC.out _ r (HRC.out.at_.ext (tzG0 _))).mono ?_); rintro e w4 ⟨r4, rfl, hB, hE⟩; have HE4 := Lib.hid (show Ext wc w4 from Ext.undrew hE); have HR4 := Lib.hid hB; have KT1 := Lib.hid (KT0.out.ext HE4.out); clear hB hE) | (go_at_call 148; (with_reducible refine (HD.out _ p (HY.out.ext HE4.out)).mono ?_); rintro e w5 ⟨rfl, hB, hE⟩; have HE5 := Lib.hid (HE4.out.trans' hE); have HY5 := Lib.hid hB; have HR5 := Lib.hid (HR4.out.ext hE); have KT2 := Lib.hid (KT0.out.ext HE5.out); have kk1 := KC1.out.ext HE5.out; have kk2 := KC2.out.ext HE5.out; have c0 : w5.cell? ⟨w.heap.size + 1, 0, none⟩ = some (.string ByteArray.empty) := (kk1.cell 0).trans rfl; have c1 : w5.cell? ⟨w.heap.size + 1, 1, none⟩ = some (.pointer none) := (kk1.cell 1).trans rfl; have d0 : w5.cell? ⟨w.heap.size + 2, 0, none⟩ = some (.string ByteArray.empty) := (kk2.cell 0).trans rfl; have d1 : w5.cell? ⟨w.heap.size + 2, 1, none⟩ = some (.pointer none) := (kk2.cell 1).trans rfl; have f0 := kk1.frozen 0; have f1 := kk1.frozen 1; have f2 := kk2.frozen 0; have f3 := kk2.frozen 1; have KK1 := Lib.hid kk1; have KK2 := Lib.hid kk2; clear hB hE kk1 kk2))
    all_goals go_wp2
    all_goals exact bodyPost_ret (v := .tuple #[coinV s r4, dcV s p]) (by simp [results, Tryz.results113, go_sem, c0, c1, d0, d1]) rfl ⟨r4, p, rfl, by first | exact four_done (EC.out.trans' HE5.out) (by omega) (by omega) (by omega) KK1.out KK2.out HR5.out HY5.out _ _ _ _ | exact four_done (EC.out.trans' HE5.out) (by omega) (by omega) (by omega) KK2.out KK1.out HR5.out HY5.out _ _ _ _⟩
end Go.Proofs.YtfocejhcdcnnhaaGreatDoor

namespace Go.Proofs.YtfocejhcdcnnhaaGreatDoor
open Go Go.RowKit

/-- The whole part and the rest of an amount. -/
def tq (x : ByteArray × Int) : ByteArray × Int := (x.1, Int.tdiv x.2 T18)
def tr (x : ByteArray × Int) : ByteArray × Int := (x.1, x.2 - Int.tdiv x.2 T18 * T18)
theorem sums_zero {P X : List (ByteArray × Int)} {y : ByteArray × Int} (h : SumsTo P X) (hy : y.2 = 0) : SumsTo (P ++ [y]) X := ⟨h.1, h.2.1, fun s => by
  rw [h.2.2, totalP_append, totalP_cons, totalP_nil, hy]; split <;> omega⟩
theorem sums_more {P X X' : List (ByteArray × Int)} {y : ByteArray × Int} (h : SumsTo P X) (h' : SumsTo (X ++ [y]) X') : SumsTo (P ++ [y]) X' := ⟨h'.1, h'.2.1, fun s => by
  rw [h'.2.2, totalP_append, totalP_append, h.2.2]⟩
theorem sums_nil : SumsTo [] [] := ⟨List.Pairwise.nil, fun _ h => (nomatch h), fun _ => rfl⟩
theorem sums_bound {P X : List (ByteArray × Int)} {m : Nat} (h : SumsTo P X) (hb : ∀ x ∈ P, x.2.natAbs ≤ m) : ∀ x ∈ X, x.2.natAbs ≤ P.length * m := fun x hx => by
  rw [← tot_get h.1 hx, h.2.2]; exact totalP_bound' x.1 hb
theorem sums_mem {P X : List (ByteArray × Int)} (h : SumsTo P X) : ∀ x ∈ X, ∃ y ∈ P, y.1 = x.1 := fun x hx => by
  have h0 : totalP x.1 P ≠ 0 := by rw [← h.2.2, tot_get h.1 hx]; exact h.2.1 x hx
  refine Classical.byContradiction fun k => h0 (totalP_none fun y hy e => k ⟨y, hy, e⟩)
theorem one_at (w : World) (s : ByteArray) (r : Nat) (t : TypeId) : RecAt (w.alloc (.cells #[.string s, .pointer (some ⟨r, 0, none⟩)] t)) (some ⟨w.heap.size, 0, none⟩) [(.string s, .pointer (some ⟨r, 0, none⟩))] := fun _ =>
  ⟨_, 0, rfl, fun j hj => by
    have : j = 0 := by simp at hj; omega
    subst this
    have k := blk_new0 w t [.string s, .pointer (some ⟨r, 0, none⟩)]
    exact ⟨(k.cell 0).trans rfl, (k.cell 1).trans rfl⟩⟩
/-- The bounds of an amount of which TruncateDecimal is asked. -/
def TOk (z : Int) : Prop := 0 ≤ z ∧ z ≤ 4000000000001 * 1000000000000000000
theorem tok_facts {z : Int} (h : TOk z) : Small z ∧ (Int.tdiv z T18).natAbs < B64 ∧ Small (Int.tdiv z T18 * T18) ∧ InR (z - Int.tdiv z T18 * T18) ∧ 0 ≤ z - Int.tdiv z T18 * T18 ∧ (tq (⟨#[]⟩, z)).2.natAbs ≤ 4000000000001 ∧ (tr (⟨#[]⟩, z)).2.natAbs < 1000000000000000000 ∧ 0 ≤ Int.tdiv z T18 := by
  obtain ⟨h0, h1⟩ := h
  have e : Int.tdiv z T18 = z / 1000000000000000000 := by unfold T18; rw [Int.tdiv_eq_ediv_of_nonneg h0]
  unfold tq tr
  dsimp only
  rw [e]
  refine ⟨small_m _ (by unfold B64; omega), by unfold B64; omega, small_m _ (by unfold B64 T18; omega), ?_, ?_, ?_, ?_, ?_⟩
  · unfold InR UPL T18; omega
  · unfold T18; omega
  · omega
  · unfold T18; omega
  · omega
/-- The whole parts and the rests handed back. -/
def RetTDs (l : List (ByteArray × Int)) (w : World) (e : Ending) (w' : World) : Prop :=
  ∃ (v u : Value) (cs ds : List Co), e = .returned (.tuple #[v, u]) ∧ CoinsOwn w' w.heap.size v cs ∧ SumsTo (l.map tq) (cs.map Co.val) ∧ DCoinsOwn w' w.heap.size u ds ∧ SumsTo (l.map tr) (ds.map Co.val) ∧ Ext w w'
theorem sums_asc {cs : List Co} {P : List (ByteArray × Int)} (h : SumsTo P (cs.map Co.val)) : sortedB (cs.map Co.s) = true := by
  rw [show cs.map Co.s = (cs.map Co.val).map Prod.fst by rw [List.map_map]; rfl]
  exact strict_sorted h.1
theorem asc_one (y : ByteArray × Int) : AscP [y] := List.pairwise_singleton _ _
theorem map_take_snoc {f : ByteArray × Int → ByteArray × Int} {l : List (ByteArray × Int)} {k : Nat} (h : k < l.length) : (l.take (k + 1)).map f = (l.take k).map f ++ [f l[k]] := by
  rw [List.take_succ_eq_append_getElem h, List.map_append]; rfl

set_option maxRecDepth 100000 in
set_option maxHeartbeats 8000000 in
theorem tdTruncAll (A : Option Addr) (n c : Nat) (l : List Co) (w : World) (hl : l.length = n) (hn : n ≤ 12) (h : DCoinsAt w A l) (hz : ∀ x ∈ l, TOk x.z) (hd : ∀ x ∈ l, denomB x.s = true) (hsz : ∀ x ∈ l, x.s.size ≤ maxLen) (hT : Thr w) :
    Calls Tryz.prog 71 #[.slice A n c] w (RetTDs (l.map Co.val) w) := by
  have HL := Lib.hid hl; have HP := Lib.hid h; have HZ := Lib.hid hz; have HD := Lib.hid hd; have HSZ := Lib.hid hsz; have HT := Lib.hid hT
  clear hl h hz hd hsz hT
  go_enter Tryz.func71, Tryz.ntmps71
  go_wp2
  go_loopw [2, 3, 10] (fun v u i wr => ∃ (k : Nat) (cs ds : List Co), k ≤ n ∧ i = .int .i64 k ∧ CoinsOwn wr w.heap.size v cs ∧ SumsTo (((l.map Co.val).take k).map tq) (cs.map Co.val) ∧ DCoinsOwn wr w.heap.size u ds ∧ SumsTo (((l.map Co.val).take k).map tr) (ds.map Co.val) ∧ Ext w wr) (fun _ _ i _ => n - (intOf i).toNat)
  case atStart => exact ⟨0, [], [], Nat.zero_le _, rfl, CoinsOwn.nil _ _, sums_nil, DCoinsOwn.nil _ _, sums_nil, Ext.refl _⟩
  case round =>
    obtain ⟨k, cs, ds, hk, rfl, hoc, hsc, hod, hsd, hE⟩ := hrel
    obtain ⟨Ac, cc, rfl⟩ := coins_shape hoc
    obtain ⟨Ad, cd, rfl, hcd⟩ := down_cap hod.1
    obtain ⟨nc, hnc⟩ : ∃ m, m = cs.length := ⟨_, rfl⟩
    obtain ⟨nd, hnd⟩ : ∃ m, m = ds.length := ⟨_, rfl⟩
    rw [← hnc] at hoc ⊢
    rw [← hnd] at hod hcd ⊢
    have HOC := Lib.hid hoc; have HSC := Lib.hid hsc; have HOD := Lib.hid hod; have HSD := Lib.hid hsd; have HE := Lib.hid hE; have HNC := Lib.hid hnc; have HND := Lib.hid hnd; have HCD := Lib.hid hcd
    clear hoc hsc hod hsd hE hnc hnd hcd
    by_cases hlt : k < n
    · have hkl : k < l.length := by rw [HL.out]; exact hlt
      have hkm : k < (l.map Co.val).length := by rw [List.length_map]; exact hkl
      obtain ⟨s, hs⟩ : ∃ s, s = l[k].s := ⟨_, rfl⟩
      obtain ⟨b, hb⟩ : ∃ b, b = l[k].b := ⟨_, rfl⟩
      obtain ⟨z, hzz⟩ : ∃ z, z = l[k].z := ⟨_, rfl⟩
      obtain ⟨g, o, hA, hc⟩ := HP.out.1 (by intro e; have := congrArg List.length e; simp at this; rw [this] at hkl; simp at hkl)
      subst hA
      have hck := hc k (by simpa using hkl)
      have cs0 : wr.cell? ⟨g, o + k * 2, none⟩ = some (.string s) := HE.out.cell' (by rw [hck.1, hs]; simp [Co.pair])
      have cs1 : wr.cell? ⟨g, o + k * 2 + 1, none⟩ = some (.pointer (some ⟨b, 0, none⟩)) := HE.out.cell' (by rw [hck.2, hb]; simp [Co.pair])
      have hml := List.getElem_mem hkl
      have HB := Lib.hid (show BigK wr b z by rw [hb, hzz]; exact (HP.out.2 _ hml).ext HE.out)
      have HX := Lib.hid (show (l.map Co.val)[k] = (s, z) by simp [Co.val, hs, hzz])
      have HTK := Lib.hid (show TOk z by rw [hzz]; exact HZ.out _ hml)
      have HDS := Lib.hid (show denomB s = true by rw [hs]; exact HD.out _ hml)
      have HSS := Lib.hid (show s.size ≤ maxLen by rw [hs]; exact HSZ.out _ hml)
      obtain ⟨q, hq⟩ : ∃ q, q = Int.tdiv z T18 := ⟨_, rfl⟩
      obtain ⟨y, hy⟩ : ∃ y, y = z - Int.tdiv z T18 * T18 := ⟨_, rfl⟩
      have HTQ := Lib.hid (show tq (l.map Co.val)[k] = (s, q) by rw [HX.out, hq]; rfl)
      have HTY := Lib.hid (show tr (l.map Co.val)[k] = (s, y) by rw [HX.out, hy]; rfl)
      have HQB := Lib.hid (show q.natAbs ≤ 4000000000001 by rw [hq]; exact (tok_facts HTK.out).2.2.2.2.2.1)
      have HYB := Lib.hid (show y.natAbs < 1000000000000000000 by rw [hy]; exact (tok_facts HTK.out).2.2.2.2.2.2.1)
      have HONE := Lib.hid (fun (W : World) (e : Ext wr W) => (show Calls Tryz.prog 113 #[dcV s b] W (RetTD s q y W) by
        obtain ⟨f1, f2, f3, f4, f5, _, _, _⟩ := tok_facts HTK.out
        rw [hq, hy]
        exact tdTruncOne s b z W (HB.out.ext e) HDS.out HTK.out.1 f1 f2 f3 f4 f5 (by have := HSS.out; unfold maxLen at this; omega) (HT.out.ext (HE.out.trans' e))))
      have PQB := Lib.hid (show ∀ x ∈ ((l.map Co.val).take k).map tq, x.2.natAbs ≤ 4000000000001 from fun x hx => by
        obtain ⟨p, hp, rfl⟩ := List.mem_map.1 hx
        obtain ⟨c0, h0, rfl⟩ := List.mem_map.1 (List.mem_of_mem_take hp)
        exact (tok_facts (HZ.out c0 h0)).2.2.2.2.2.1)
      have PYB := Lib.hid (show ∀ x ∈ ((l.map Co.val).take k).map tr, x.2.natAbs ≤ 1000000000000000000 from fun x hx => by
        obtain ⟨p, hp, rfl⟩ := List.mem_map.1 hx
        obtain ⟨c0, h0, rfl⟩ := List.mem_map.1 (List.mem_of_mem_take hp)
        exact Nat.le_of_lt (tok_facts (HZ.out c0 h0)).2.2.2.2.2.2.1)
      have PLQ := Lib.hid (show (((l.map Co.val).take k).map tq).length ≤ 12 by rw [List.length_map, List.length_take]; omega)
      have PLY := Lib.hid (show (((l.map Co.val).take k).map tr).length ≤ 12 by rw [List.length_map, List.length_take]; omega)
      have HLC := Lib.hid (show nc ≤ 12 by have h1 := sums_len HSC.out; rw [List.length_map] at h1; have := PLQ.out; have := HNC.out; omega)
      have HLD := Lib.hid (show nd ≤ 12 by have h1 := sums_len HSD.out; rw [List.length_map] at h1; have := PLY.out; have := HND.out; omega)
      have CB := Lib.hid (show ∀ x ∈ cs, x.z.natAbs ≤ 1125899906842624 from fun x hx => by
        have h1 := sums_bound HSC.out PQB.out x.val (List.mem_map_of_mem hx)
        have h2 : x.val.2 = x.z := rfl
        have h3 : (((l.map Co.val).take k).map tq).length * 4000000000001 ≤ 12 * 4000000000001 := Nat.mul_le_mul_right _ PLQ.out
        rw [h2] at h1; omega)
      have DB := Lib.hid (show ∀ x ∈ ds, x.z.natAbs ≤ 12 * 1000000000000000000 from fun x hx => Nat.le_trans (sums_bound HSD.out PYB.out x.val (List.mem_map_of_mem hx)) (Nat.mul_le_mul_right _ PLY.out))
      have CS := Lib.hid (show ∀ x ∈ cs, x.s.size ≤ maxLen from fun x hx => by
        obtain ⟨p, hp, e⟩ := sums_mem HSC.out x.val (List.mem_map_of_mem hx)
        obtain ⟨p2, hp2, rfl⟩ := List.mem_map.1 hp
        obtain ⟨c0, h0, rfl⟩ := List.mem_map.1 (List.mem_of_mem_take hp2)
        have e2 : x.s = c0.s := e.symm
        rw [e2]; exact HSZ.out c0 h0)
      clear hs hb hzz hck hc hml hq hy
      go_wp2_with (fail)
      go_at_call 113
      refine (HONE.out _ (Ext.alloc' _ _)).mono ?_
      rintro e w1 ⟨r, p, rfl, hR, hY, hE1⟩
      have HE1 := Lib.hid ((Ext.alloc' wr (dcBox s b)).trans' hE1)
      obtain ⟨g6, hg6⟩ : ∃ g6, g6 = w1.heap.size := ⟨_, rfl⟩
      have hg7 : w1.heap.size + 1 = g6 + 1 := by rw [hg6]
      obtain ⟨W, hW⟩ : ∃ W, W = (w1.alloc (coinBox s r)).alloc (dcBox s p) := ⟨_, rfl⟩
      have K6 := Lib.hid (show Blk W g6 139 [.string s, .pointer (some ⟨r, 0, none⟩)] by rw [hW, hg6]; exact (blk_new0 w1 _ [.string s, .pointer (some ⟨r, 0, none⟩)]).alloc _)
      have K7 := Lib.hid (show Blk W (g6 + 1) 106 [.string s, .pointer (some ⟨p, 0, none⟩)] by rw [hW, hg6]; exact blk_new1 w1 _ _ [.string s, .pointer (some ⟨p, 0, none⟩)])
      have EW := Lib.hid (show Ext wr W by rw [hW]; exact HE1.out.trans' (ext2 _ _ _))
      have HR := Lib.hid (show BigAt W r q by rw [hW]; exact hR.ext (ext2 _ _ _))
      have HY := Lib.hid (show BigK W p y by rw [hW]; exact hY.ext (ext2 _ _ _))
      have HWW := Lib.hid hW; have HG6 := Lib.hid hg6
      clear hR hY hE1 hW hg6 hg7 cs0 cs1
      go_upto_region 5 with fail
      rw [← HWW.out, ← HG6.out]
      have c60 : W.cell? ⟨g6, 0, none⟩ = some (.string s) := (K6.out.cell 0).trans rfl
      have c61 : W.cell? ⟨g6, 1, none⟩ = some (.pointer (some ⟨r, 0, none⟩)) := (K6.out.cell 1).trans rfl
      have l6 := cell_lt c60
      have HZ6 := Lib.hid (tIsZero s r q W HR.out)
      rw [sgn_zero] at HZ6
      by_cases hq0 : q = 0
      · rw [decide_eq_true hq0] at HZ6
        have HQ0 := Lib.hid hq0; clear hq0
        go_wp2_with (fail)
        go_at_call 114
        refine HZ6.out.mono ?_
        rintro e w3 ⟨rfl, hE3⟩
        have HE3 := Lib.hid hE3; clear hE3
        have k63 := K6.out.ext HE3.out
        have d60 : w3.cell? ⟨g6, 0, none⟩ = some (.string s) := (k63.cell 0).trans rfl
        have d61 : w3.cell? ⟨g6, 1, none⟩ = some (.pointer (some ⟨r, 0, none⟩)) := (k63.cell 1).trans rfl
        have l63 := cell_lt d60
        clear k63 c60 c61 l6
        obtain ⟨wa, hwa⟩ : ∃ wa, wa = w3 := ⟨_, rfl⟩
        have HEA := Lib.hid (show Ext W wa by rw [hwa]; exact HE3.out)
        have HOA := Lib.hid (show CoinsOwn wa w.heap.size (.slice Ac nc cc) cs by rw [hwa]; exact HOC.out.ext (EW.out.trans' HE3.out))
        have HSA := Lib.hid (show SumsTo (((l.map Co.val).take (k + 1)).map tq) (cs.map Co.val) by rw [map_take_snoc hkm, HTQ.out]; exact sums_zero HSC.out HQ0.out)
        obtain rfl := hwa
        have HOD2 := Lib.hid (HOD.out.ext (EW.out.trans' HEA.out))
        have k7a := K7.out.ext HEA.out
        have c70 : wa.cell? ⟨g6 + 1, 0, none⟩ = some (.string s) := (k7a.cell 0).trans rfl
        have c71 : wa.cell? ⟨g6 + 1, 1, none⟩ = some (.pointer (some ⟨p, 0, none⟩)) := (k7a.cell 1).trans rfl
        have l7 := cell_lt c70
        clear k7a
        have HZ7 := Lib.hid (tdIsZero s p y wa (HY.out.ext HEA.out))
        rw [sgn_zero] at HZ7
        by_cases hy0 : y = 0
        · rw [decide_eq_true hy0] at HZ7
          have HY0 := Lib.hid hy0; clear hy0
          go_wp2_with (fail)
          go_at_call 77
          refine HZ7.out.mono ?_
          rintro e w5 ⟨rfl, hE5⟩
          have HE5 := Lib.hid (HEA.out.trans' hE5)
          have HOA5 := Lib.hid (HOA.out.ext hE5); have HOD5 := Lib.hid (HOD2.out.ext hE5)
          have k75 := K7.out.ext HE5.out
          have d70 : w5.cell? ⟨g6 + 1, 0, none⟩ = some (.string s) := (k75.cell 0).trans rfl
          have d71 : w5.cell? ⟨g6 + 1, 1, none⟩ = some (.pointer (some ⟨p, 0, none⟩)) := (k75.cell 1).trans rfl
          have l75 := cell_lt d70
          clear k75 c70 c71 l7 hE5
          go_wp2
          go_roundw
          case rel =>
            refine ⟨k + 1, cs, ds, by omega, by go_num, HOA5.out, HSA.out, HOD5.out, ?_, HE.out.trans' (EW.out.trans' HE5.out)⟩
            rw [map_take_snoc hkm, HTY.out]; exact sums_zero HSD.out HY0.out
          case measure => simp [intOf]; omega
        · rw [decide_eq_false hy0] at HZ7
          have HY0 := Lib.hid hy0; clear hy0
          go_wp2_with (fail)
          go_at_call 77
          refine HZ7.out.mono ?_
          rintro e w5 ⟨rfl, hE5⟩
          have HE5 := Lib.hid (HEA.out.trans' hE5)
          have HOA5 := Lib.hid (HOA.out.ext hE5); have HOD5 := Lib.hid (HOD2.out.ext hE5)
          have k75 := K7.out.ext HE5.out
          have d70 : w5.cell? ⟨g6 + 1, 0, none⟩ = some (.string s) := (k75.cell 0).trans rfl
          have d71 : w5.cell? ⟨g6 + 1, 1, none⟩ = some (.pointer (some ⟨p, 0, none⟩)) := (k75.cell 1).trans rfl
          have l75 := cell_lt d70
          clear k75 c70 c71 l7 hE5
          have HADD2 := Lib.hid (tdAddCoins Ad (some ⟨w5.heap.size, 0, none⟩) nd cd 1 1 ds [⟨s, p, y⟩] (w5.alloc (dcBox s p)) HND.out.symm rfl (by have := HLD.out; omega) (by omega) HCD.out (Nat.le_refl _) (dcoinsAt_own (HOD5.out.ext (ext1 _ _)) HND.out.symm) ⟨one_at w5 s p _, fun x hx => by rw [List.mem_singleton] at hx; subst hx; exact HY.out.ext (HE5.out.trans' (ext1 _ _))⟩ (fun x hx u hu _ => by rw [List.mem_singleton] at hu; subst hu; have h1 := DB.out x hx; have h2 := HYB.out; exact ⟨small_m _ (by unfold B64; omega), small_m _ (by unfold B64; show y.natAbs < _; omega), by show InR (x.z + y); unfold InR UPL T18; omega⟩) (HT.out.ext ((HE.out.trans' (EW.out.trans' HE5.out)).trans' (ext1 _ _))))
          go_wp2_with (fail)
          go_at_call 62
          refine HADD2.out.mono ?_
          rintro e w6 ⟨v6, d6, rfl, hv6, ho6, hE6⟩
          have HE6 := Lib.hid (HE5.out.trans' ((ext1 _ _).trans' hE6))
          have HOA6 := Lib.hid (HOA5.out.ext ((ext1 _ _).trans' hE6))
          have HOD6 := Lib.hid (show DCoinsOwn w6 w.heap.size v6 d6 from ho6.low (by have h1 := (HE.out.trans' (EW.out.trans' HE5.out)).size; simp; omega))
          have HS6 := Lib.hid (show SumsTo (((l.map Co.val).take (k + 1)).map tr) (d6.map Co.val) by rw [map_take_snoc hkm, HTY.out]; refine sums_more HSD.out ?_; rw [hv6]; exact dmrg_sums _ _ HSD.out.1 (asc_one _))
          clear hv6 ho6 hE6 HADD2
          go_wp2
          go_roundw
          case rel =>
            exact ⟨k + 1, cs, d6, by omega, by go_num, HOA6.out, HSA.out, HOD6.out, HS6.out, HE.out.trans' (EW.out.trans' HE6.out)⟩
          case measure => simp [intOf]; omega
      · rw [decide_eq_false hq0] at HZ6
        have HQ0 := Lib.hid hq0; clear hq0
        go_wp2_with (fail)
        go_at_call 114
        refine HZ6.out.mono ?_
        rintro e w3 ⟨rfl, hE3⟩
        have HE3 := Lib.hid hE3; clear hE3
        have k63 := K6.out.ext HE3.out
        have d60 : w3.cell? ⟨g6, 0, none⟩ = some (.string s) := (k63.cell 0).trans rfl
        have d61 : w3.cell? ⟨g6, 1, none⟩ = some (.pointer (some ⟨r, 0, none⟩)) := (k63.cell 1).trans rfl
        have l63 := cell_lt d60
        clear k63 c60 c61 l6
        have HADD := Lib.hid (tAddCoins Ac (some ⟨w3.heap.size, 0, none⟩) nc cc 1 1 cs [⟨s, r, q⟩] (w3.alloc (coinBox s r)) HNC.out.symm rfl (by have := HLC.out; omega) ((own_at (HOC.out.ext ((EW.out.trans' HE3.out).trans' (ext1 _ _)))).1) ⟨one_at w3 s r _, fun x hx => by rw [List.mem_singleton] at hx; subst hx; exact HR.out.ext (HE3.out.trans' (ext1 _ _))⟩ (fun x hx => by rcases List.mem_append.1 hx with hx | hx; exact CS.out x hx; rw [List.mem_singleton] at hx; subst hx; exact HSS.out) (fun x hx => by rcases List.mem_append.1 hx with hx | hx; exact CB.out x hx; rw [List.mem_singleton] at hx; subst hx; have h1 := HQB.out; exact Nat.le_trans h1 (by decide)) (sums_asc HSC.out) (by simp [sortedB]))
        go_wp2_with (fail)
        go_at_call 115
        refine HADD.out.mono ?_
        rintro e wa ⟨va, ca, ks, rfl, hoa, hEa, hva, hks, hmem⟩
        have HEA := Lib.hid (HE3.out.trans' ((ext1 _ _).trans' hEa))
        have HAD := Lib.hid (show IsAdd (cs.map Co.val ++ [(s, q)]) (ca.map Co.val) from ⟨ks, hks, fun t => (hmem t).trans (ofS_plain rfl rfl t), by rw [hva, coal_plain, List.map_append]; rfl⟩)
        have HOA := Lib.hid (show CoinsOwn wa w.heap.size va ca from own_lower hoa (by have h1 := (HE.out.trans' EW.out).size; have h2 := HE3.out.size; simp; omega))
        have HSA := Lib.hid (show SumsTo (((l.map Co.val).take (k + 1)).map tq) (ca.map Co.val) by rw [map_take_snoc hkm, HTQ.out]; exact sums_more HSC.out (isAdd_sums HAD.out))
        clear hoa hEa hva hks hmem HADD HAD
        have HOD2 := Lib.hid (HOD.out.ext (EW.out.trans' HEA.out))
        have k7a := K7.out.ext HEA.out
        have c70 : wa.cell? ⟨g6 + 1, 0, none⟩ = some (.string s) := (k7a.cell 0).trans rfl
        have c71 : wa.cell? ⟨g6 + 1, 1, none⟩ = some (.pointer (some ⟨p, 0, none⟩)) := (k7a.cell 1).trans rfl
        have l7 := cell_lt c70
        clear k7a
        have HZ7 := Lib.hid (tdIsZero s p y wa (HY.out.ext HEA.out))
        rw [sgn_zero] at HZ7
        by_cases hy0 : y = 0
        · rw [decide_eq_true hy0] at HZ7
          have HY0 := Lib.hid hy0; clear hy0
          go_wp2_with (fail)
          go_at_call 77
          refine HZ7.out.mono ?_
          rintro e w5 ⟨rfl, hE5⟩
          have HE5 := Lib.hid (HEA.out.trans' hE5)
          have HOA5 := Lib.hid (HOA.out.ext hE5); have HOD5 := Lib.hid (HOD2.out.ext hE5)
          have k75 := K7.out.ext HE5.out
          have d70 : w5.cell? ⟨g6 + 1, 0, none⟩ = some (.string s) := (k75.cell 0).trans rfl
          have d71 : w5.cell? ⟨g6 + 1, 1, none⟩ = some (.pointer (some ⟨p, 0, none⟩)) := (k75.cell 1).trans rfl
          have l75 := cell_lt d70
          clear k75 c70 c71 l7 hE5
          go_wp2
          go_roundw
          case rel =>
            refine ⟨k + 1, ca, ds, by omega, by go_num, HOA5.out, HSA.out, HOD5.out, ?_, HE.out.trans' (EW.out.trans' HE5.out)⟩
            rw [map_take_snoc hkm, HTY.out]; exact sums_zero HSD.out HY0.out
          case measure => simp [intOf]; omega
        · rw [decide_eq_false hy0] at HZ7
          have HY0 := Lib.hid hy0; clear hy0
          go_wp2_with (fail)
          go_at_call 77
          refine HZ7.out.mono ?_
          rintro e w5 ⟨rfl, hE5⟩
          have HE5 := Lib.hid (HEA.out.trans' hE5)
          have HOA5 := Lib.hid (HOA.out.ext hE5); have HOD5 := Lib.hid (HOD2.out.ext hE5)
          have k75 := K7.out.ext HE5.out
          have d70 : w5.cell? ⟨g6 + 1, 0, none⟩ = some (.string s) := (k75.cell 0).trans rfl
          have d71 : w5.cell? ⟨g6 + 1, 1, none⟩ = some (.pointer (some ⟨p, 0, none⟩)) := (k75.cell 1).trans rfl
          have l75 := cell_lt d70
          clear k75 c70 c71 l7 hE5
          have HADD2 := Lib.hid (tdAddCoins Ad (some ⟨w5.heap.size, 0, none⟩) nd cd 1 1 ds [⟨s, p, y⟩] (w5.alloc (dcBox s p)) HND.out.symm rfl (by have := HLD.out; omega) (by omega) HCD.out (Nat.le_refl _) (dcoinsAt_own (HOD5.out.ext (ext1 _ _)) HND.out.symm) ⟨one_at w5 s p _, fun x hx => by rw [List.mem_singleton] at hx; subst hx; exact HY.out.ext (HE5.out.trans' (ext1 _ _))⟩ (fun x hx u hu _ => by rw [List.mem_singleton] at hu; subst hu; have h1 := DB.out x hx; have h2 := HYB.out; exact ⟨small_m _ (by unfold B64; omega), small_m _ (by unfold B64; show y.natAbs < _; omega), by show InR (x.z + y); unfold InR UPL T18; omega⟩) (HT.out.ext ((HE.out.trans' (EW.out.trans' HE5.out)).trans' (ext1 _ _))))
          go_wp2_with (fail)
          go_at_call 62
          refine HADD2.out.mono ?_
          rintro e w6 ⟨v6, d6, rfl, hv6, ho6, hE6⟩
          have HE6 := Lib.hid (HE5.out.trans' ((ext1 _ _).trans' hE6))
          have HOA6 := Lib.hid (HOA5.out.ext ((ext1 _ _).trans' hE6))
          have HOD6 := Lib.hid (show DCoinsOwn w6 w.heap.size v6 d6 from ho6.low (by have h1 := (HE.out.trans' (EW.out.trans' HE5.out)).size; simp; omega))
          have HS6 := Lib.hid (show SumsTo (((l.map Co.val).take (k + 1)).map tr) (d6.map Co.val) by rw [map_take_snoc hkm, HTY.out]; refine sums_more HSD.out ?_; rw [hv6]; exact dmrg_sums _ _ HSD.out.1 (asc_one _))
          clear hv6 ho6 hE6 HADD2
          go_wp2
          go_roundw
          case rel =>
            exact ⟨k + 1, ca, d6, by omega, by go_num, HOA6.out, HSA.out, HOD6.out, HS6.out, HE.out.trans' (EW.out.trans' HE6.out)⟩
          case measure => simp [intOf]; omega
    · obtain rfl : k = n := by omega
      go_wp2
      go_ret2
      exact ⟨_, _, cs, ds, rfl, HOC.out, by have h9 := HSC.out; rw [List.take_of_length_le (by simp [HL.out])] at h9; exact h9, HOD.out, by have h9 := HSD.out; rw [List.take_of_length_le (by simp [HL.out])] at h9; exact h9, HE.out⟩
end Go.Proofs.YtfocejhcdcnnhaaGreatDoor

namespace Go.Proofs.YtfocejhcdcnnhaaGreatDoor
open Go Go.RowKit

/-- What DecTruncate hands back. -/
def RetTrunc (l : List (ByteArray × Int)) (w : World) (e : Ending) (w' : World) : Prop :=
  ((∀ x ∈ l, dOneErr x = none) ∧ ∃ (v u : Value) (x y : List (ByteArray × Int)), e = .returned (.tuple #[v, u, .bool true]) ∧ PlainOwn w' w.heap.size 51 v x ∧ SumsTo (l.map tq) x ∧ DPlainOwn w' w.heap.size u (y.map dback) ∧ SumsTo (l.map tr) y ∧ Ext w w') ∨
  ((∃ x ∈ l, dOneErr x ≠ none) ∧ e = .returned (.tuple #[.slice none 0 0, .slice none 0 0, .bool false]) ∧ Ext w w')
theorem dOneErr_good {x : ByteArray × Int} (h : dOneErr x = none) : denomB x.1 = true ∧ 0 ≤ x.2 := by
  unfold dOneErr at h
  split at h
  · cases h
  · next h1 =>
    split at h
    · cases h
    · next h2 => exact ⟨by simpa using h1, by omega⟩
theorem tok_dec {x : DP} (h : DecB x.2.1 x.2.2) (h0 : 0 ≤ (dval x).2) : TOk (dval x).2 := by
  obtain ⟨⟨a, b⟩, c, d⟩ := h
  refine ⟨h0, ?_⟩
  show decV x.2.1 x.2.2 ≤ _
  unfold decV T18
  omega
theorem sumsQ_bound {L X : List (ByteArray × Int)} (h : SumsTo (L.map tq) X) (hl : L.length ≤ 12) (hb : ∀ x ∈ L, TOk x.2) : ∀ x ∈ X, x.2.natAbs ≤ 12 * 4000000000001 := fun x hx =>
  Nat.le_trans (sums_bound h (fun y hy => by obtain ⟨p, hp, rfl⟩ := List.mem_map.1 hy; exact (tok_facts (hb p hp)).2.2.2.2.2.1) x hx) (Nat.mul_le_mul_right _ (by rw [List.length_map]; exact hl))
theorem sumsR_bound {L X : List (ByteArray × Int)} (h : SumsTo (L.map tr) X) (hl : L.length ≤ 12) (hb : ∀ x ∈ L, TOk x.2) : ∀ x ∈ X, x.2.natAbs ≤ 12 * 1000000000000000000 := fun x hx =>
  Nat.le_trans (sums_bound h (fun y hy => by obtain ⟨p, hp, rfl⟩ := List.mem_map.1 hy; exact Nat.le_of_lt (tok_facts (hb p hp)).2.2.2.2.2.2.1) x hx) (Nat.mul_le_mul_right _ (by rw [List.length_map]; exact hl))
theorem plain_low {w : World} {b b' : Nat} {E : TypeId} {v : Value} {l : List (ByteArray × Int)} (h : PlainOwn w b E v l) (hb : b' ≤ b) : PlainOwn w b' E v l := row_low h hb

set_option maxRecDepth 100000 in
set_option maxHeartbeats 4000000 in
theorem iDecTruncate (A : Option Addr) (n c : Nat) (l : List DP) (w : World) (hl : l.length = n) (hn : n ≤ 12) (hA : DPlainAt w A l) (hz : ∀ x ∈ l, DecB x.2.1 x.2.2) (hsz : ∀ x ∈ l, x.1.size ≤ maxLen) (hT : Thr w) :
    Calls Tryz.prog 35 #[.slice A n c] w (RetTrunc (l.map dval) w) := by
  have HL := Lib.hid hl; have HP := Lib.hid hA; have HZ := Lib.hid hz; have HSZ := Lib.hid hsz; have HT := Lib.hid hT
  clear hl hA hz hsz hT
  go_enter Tryz.func35, Tryz.ntmps35
  go_wp2
  go_loopw [13] (fun i wr => ∃ k : Nat, k ≤ n ∧ i = .int .i64 k ∧ (∀ x ∈ l.take k, dOneErr (dval x) = none) ∧ Ext w wr) (fun i _ => n - (intOf i).toNat)
  case atStart => exact ⟨0, Nat.zero_le _, rfl, (fun x hx => by simp at hx), Ext.refl _⟩
  case round =>
    obtain ⟨k, hk, rfl, hq, hE⟩ := hrel
    have HQ := Lib.hid hq; have HE := Lib.hid hE
    clear hq hE
    by_cases hlt : k < n
    · have hkl : k < l.length := by rw [HL.out]; exact hlt
      obtain ⟨s, hs⟩ : ∃ s, s = l[k].1 := ⟨_, rfl⟩
      obtain ⟨x, hxx⟩ : ∃ x, x = l[k].2.1 := ⟨_, rfl⟩
      obtain ⟨y, hyy⟩ : ∃ y, y = l[k].2.2 := ⟨_, rfl⟩
      obtain ⟨z, hzz⟩ : ∃ z, z = decV x y := ⟨_, rfl⟩
      have hml := List.getElem_mem hkl
      have hd : DecB x y := by rw [hxx, hyy]; exact HZ.out _ hml
      have hss : s.size ≤ 9223372036854775807 := by have := HSZ.out _ hml; rw [hs]; unfold maxLen at this; omega
      obtain ⟨g, o, hA, hc⟩ := HP.out (by intro e; have := congrArg List.length e; simp at this; rw [this] at hkl; simp at hkl)
      subst hA
      have hck := hc k (by simpa using hkl)
      have cs0 : wr.cell? ⟨g, o + k * 3, none⟩ = some (.string s) := HE.out.cell' (by rw [hck.1, hs]; simp [dplain])
      have cs1 : wr.cell? ⟨g, o + k * 3 + 1, none⟩ = some (.int .i64 x) := HE.out.cell' (by rw [hck.2.1, hxx]; simp [dplain])
      have cs2 : wr.cell? ⟨g, o + k * 3 + 2, none⟩ = some (.int .i64 y) := HE.out.cell' (by rw [hck.2.2, hyy]; simp [dplain])
      have HV := Lib.hid (show dval l[k] = (s, z) by rw [hzz, hxx, hyy, hs]; rfl)
      have HM := Lib.hid (show l[k] ∈ l from hml)
      have HDC := Lib.hid (fun (W : World) (e : Ext w W) => iDecCoin s x y W hd (HT.out.ext e))
      rw [← hzz] at HDC
      have HSS := Lib.hid hss
      obtain ⟨er, her⟩ : ∃ er, er = dOneErr (s, z) := ⟨_, rfl⟩
      have HER := Lib.hid her
      clear hs hxx hyy hzz hck hc hml hd hss her
      go_wp2_with (fail)
      go_at_call 69
      refine (HDC.out _ (HE.out.trans' (ext1 _ _))).mono ?_
      rintro e w1 ⟨b, rfl, hB, hE1⟩
      have HE1 := Lib.hid (HE.out.trans' ((ext1 _ _).trans' hE1))
      have HVD := Lib.hid (tdValidate s b z w1 hB.k HSS.out)
      rw [← HER.out] at HVD
      clear hB hE1
      go_wp2_with (fail)
      go_at_call 70
      refine HVD.out.mono ?_
      cases er with
      | none =>
        rintro e w2 ⟨rfl, hE2⟩
        have HE2 := Lib.hid (HE1.out.trans' hE2); clear hE2
        go_wp2
        go_roundw
        case rel =>
          refine ⟨k + 1, by omega, by go_num, fun u hu => ?_, HE2.out⟩
          rw [List.take_succ_eq_append_getElem hkl, List.mem_append, List.mem_singleton] at hu
          rcases hu with hu | rfl
          · exact HQ.out u hu
          · rw [HV.out]; exact HER.out.symm
        case measure => simp [intOf]; omega
      | some t =>
        rintro e w2 ⟨eb, rfl, hBB, hE2⟩
        have HE2 := Lib.hid (HE1.out.trans' hE2); clear hE2 hBB
        go_wp2
        go_ret3
        exact Or.inr ⟨⟨dval l[k], List.mem_map_of_mem HM.out, by rw [HV.out, ← HER.out]; simp⟩, rfl, HE2.out⟩
    · obtain rfl : k = n := by omega
      have HG := Lib.hid (show ∀ x ∈ l, dOneErr (dval x) = none from fun x hx => HQ.out x (by rw [List.take_of_length_le (by rw [HL.out]; exact Nat.le_refl _)]; exact hx))
      have HTOK := Lib.hid (show ∀ v ∈ l.map dval, TOk v.2 from fun v hv => by
        obtain ⟨y, hy, rfl⟩ := List.mem_map.1 hv
        exact tok_dec (HZ.out y hy) (dOneErr_good (HG.out y hy)).2)
      have HLM := Lib.hid (show (l.map dval).length ≤ 12 by rw [List.length_map, HL.out]; exact hn)
      go_wp2_with (fail)
      go_at_call 42
      refine (iDecCoins A k c l wr HL.out (by omega) (HP.out.ext HE.out) HZ.out (HT.out.ext HE.out)).mono ?_
      rintro e w1 ⟨v1, ca, rfl, va, oa, hE1⟩
      obtain ⟨A1, c1, rfl, hc1⟩ := down_cap oa.1
      have HE1 := Lib.hid (HE.out.trans' hE1)
      have hlen : ca.length ≤ 12 := by have h9 := congrArg List.length va; rw [List.length_map] at h9; have := HLM.out; omega
      have HTR := Lib.hid (by
        have h := tdTruncAll A1 ca.length c1 ca w1 rfl hlen (dcoinsAt_own oa rfl) (fun x hx => HTOK.out x.val (by rw [← va]; exact List.mem_map_of_mem hx)) (fun x hx => by
          have h1 : x.val ∈ l.map dval := by rw [← va]; exact List.mem_map_of_mem hx
          obtain ⟨y, hy, e⟩ := List.mem_map.1 h1
          have h2 := (dOneErr_good (HG.out y hy)).1
          rw [e] at h2; exact h2) (fun x hx => by
          have h1 : x.val ∈ l.map dval := by rw [← va]; exact List.mem_map_of_mem hx
          obtain ⟨y, hy, e⟩ := List.mem_map.1 h1
          have h3 : x.s = y.1 := (congrArg Prod.fst e).symm
          rw [h3]; exact HSZ.out y hy) (HT.out.ext HE1.out)
        rw [va] at h
        exact h)
      clear va oa hE1 hc1 hlen
      go_wp2_with (fail)
      go_at_call 71
      refine HTR.out.mono ?_
      rintro e w2 ⟨v2, u2, cs, ds, rfl, hoc, hsc, hod, hsd, hE2⟩
      obtain ⟨A2, c2, rfl⟩ := coins_shape hoc
      obtain ⟨A3, c3, rfl, hc3⟩ := down_cap hod.1
      have HSC := Lib.hid hsc; have HSD := Lib.hid hsd; have HE2 := Lib.hid (HE1.out.trans' hE2)
      have HLC := Lib.hid (show cs.length ≤ 12 by have h1 := sums_len hsc; rw [List.length_map, List.length_map] at h1; have := HLM.out; omega)
      have HLD := Lib.hid (show ds.length ≤ 12 by have h1 := sums_len hsd; rw [List.length_map, List.length_map] at h1; have := HLM.out; omega)
      have HBC := Lib.hid (iBackCoins A2 cs.length c2 cs w2 rfl (by have := HLC.out; omega) (own_at hoc).1 (fun x hx => by
        have h1 := sumsQ_bound hsc HLM.out HTOK.out x.val (List.mem_map_of_mem hx)
        have h2 : x.val.2 = x.z := rfl
        rw [h2] at h1
        unfold maxI; omega))
      have HDA := Lib.hid (show DCoinsAt w2 A3 ds from dcoinsAt_own hod rfl)
      have HFD := Lib.hid (show ∀ x ∈ ds, FitT x.z from fun x hx => by
        have h1 : x.z.natAbs ≤ 12 * 1000000000000000000 := sumsR_bound hsd HLM.out HTOK.out x.val (List.mem_map_of_mem hx)
        unfold FitT; omega)
      clear hoc hsc hod hsd hE2 hc3
      go_wp2_with (fail)
      go_at_call 72
      refine HBC.out.mono ?_
      rintro e w3 ⟨v3, rfl, ho3, hE3⟩
      have HE3 := Lib.hid (HE2.out.trans' hE3)
      have HO3 := Lib.hid ho3
      have HBD := Lib.hid (iBackDecs A3 ds.length c3 ds w3 rfl (by have := HLD.out; omega) (HDA.out.ext hE3) HFD.out)
      rw [show (ds.map fun x => dback x.val) = (ds.map Co.val).map dback by rw [List.map_map]; rfl] at HBD
      clear ho3 hE3
      go_wp2_with (fail)
      go_at_call 41
      refine HBD.out.mono ?_
      rintro e w4 ⟨v4, rfl, ho4, hE4⟩
      have HE4 := Lib.hid (HE3.out.trans' hE4); have HO4 := Lib.hid ho4; have HO34 := Lib.hid (HO3.out.ext hE4)
      clear ho4 hE4
      go_wp2
      go_ret3
      refine Or.inl ⟨fun v hv => ?_, v3, v4, _, _, rfl, plain_low HO34.out HE2.out.size, HSC.out, HO4.out.low HE3.out.size, HSD.out, HE4.out⟩
      obtain ⟨y, hy, rfl⟩ := List.mem_map.1 hv
      exact HG.out y hy
end Go.Proofs.YtfocejhcdcnnhaaGreatDoor
