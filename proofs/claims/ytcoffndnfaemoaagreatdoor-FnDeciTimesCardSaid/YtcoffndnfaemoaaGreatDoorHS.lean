/-
  chopPrecisionAndRound: to 18 digits less, halves to the even one.
  chopPrecisionAndRound of numbers that are wholly newer than w0.
  MulTruncateMut and MulMut of decimals that are wholly newer than w0.
  MulMut of decimals that are wholly newer than w0.
  LegacyDec's Mul and MulTruncate.
  Plain facts: what rounding and truncating are, told by magnitudes.
-/
import Derived.Test.YtcoffndnfaemoaaGreatDoorMulA
import Derived.Test.YtcoffndnfaemoaaGreatDoorHW
import Derived.Test.YtcoffndnfaemoaaGreatDoorGZ
import Derived.Test.YtcoffndnfaemoaaGreatDoorIntQuo
import Derived.Test.YtcoffndnfaemoaaGreatDoorGP
namespace Go.Proofs.YtcoffndnfaemoaaGreatDoor
open Go Go.RowKit

set_option maxRecDepth 100000 in
theorem newZeroB (w : World) : Calls Tryz.prog 86 #[.int .i64 0] w (fun e w' => e = .returned (.pointer (some ⟨w.heap.size, 0, none⟩)) ∧ w' = w.alloc (.cells #[.bool false, .slice none 0 0] 126)) := by
  go_enter Tryz.func86, Tryz.ntmps86
  go_wp2
  go_ret
  exact ⟨rfl, rfl⟩
set_option maxRecDepth 100000 in
theorem dOneI (w : World) : Calls Tryz.prog 228 #[] w (RetPK 1 w) := by
  go_enter Tryz.func228, Tryz.ntmps228
  go_wp2_with (go_at_call 86; refine (kNew 1 _ (by omega) (by omega)).mono ?_; rintro e w1 ⟨p1, rfl, hr⟩; have HR := Lib.hid hr; clear hr)
  go_ret
  exact ⟨_, rfl, HR.out⟩
theorem and_one (a : Nat) (h : a < B64) : bits .and .u64 (a : Int) 1 = ((a % 2 : Nat) : Int) := by
  have k := bits_and_u64_nat a 1 (by unfold B64 at h; omega) (by omega)
  rw [show ((1 : Nat) : Int) = 1 from rfl] at k
  rw [k, Nat.and_one_is_mod]
theorem natOf_cons_mod2 (a : Nat) (ws : List Nat) : natOf (a :: ws) % 2 = a % 2 := by
  show (a + B64 * natOf ws) % 2 = a % 2
  unfold B64; omega
set_option maxRecDepth 100000 in
theorem intBit0 (x : Nat) (z : Int) (w : World) (hx : BigAt w x z) : Calls Tryz.prog 229 #[.pointer (some ⟨x, 0, none⟩), .int .i64 0] w fun e w' => e = .returned (.int .u64 ((z.natAbs % 2 : Nat) : Int)) ∧ w' = w := by
  obtain ⟨A, c, ws, neg, hx, hw, hl, hN, hz, rfl⟩ := hx
  have c1 : w.cell? ⟨x, 1, none⟩ = some (.slice A ws.length c) := (hx.cell 1).trans rfl
  have F := Lib.hid (show (bigVal neg ws).natAbs = natOf ws by cases neg <;> simp [bigVal])
  rcases ws with _ | ⟨a, vs⟩
  · have c1' : w.cell? ⟨x, 1, none⟩ = some (.slice A 0 c) := c1
    clear hx hl hz hw hN c1
    go_enter Tryz.func229, Tryz.ntmps229
    go_wp2
    go_ret
    rw [F.out]; exact ⟨rfl, rfl⟩
  · have ha : a < B64 := hw.1 a (by simp)
    obtain ⟨g, o, rfl, hc⟩ := hw.get (by simp)
    have c0 : w.cell? ⟨g, o, none⟩ = some (.int .u64 (a : Int)) := hc 0 (by simp)
    have E := and_one a ha
    have G := Lib.hid (natOf_cons_mod2 a vs)
    obtain ⟨n, hn⟩ : ∃ n, n = (a :: vs).length := ⟨_, rfl⟩
    have e1 : (0 : Int) < (n : Int) := by rw [hn]; simp
    rw [← hn] at c1
    clear hx hl hz hw hN hc ha hn
    go_enter Tryz.func229, Tryz.ntmps229
    go_wp2
    go_ret
    rw [F.out, G.out]; exact ⟨rfl, rfl⟩
theorem ptr_ne_same (W : World) (a : Nat) :
    (binOp .neq 82 (.pointer (some ⟨a, 0, none⟩)) (.pointer (some ⟨a, 0, none⟩))).run Tryz.prog W = .ok (.bool false) W := by
  obtain ⟨j, hj, hs⟩ : ∃ j, Tryz.prog.info? 126 = some j ∧ j.size ≠ 0 := by
    have h : (Tryz.prog.info? 126).map (·.size) = some 2 := by kernel_rfl
    obtain ⟨j, h1, h2⟩ := Option.map_eq_some_iff.1 h
    exact ⟨j, h1, by rw [h2]; decide⟩
  have h : ∀ d : Nat, (Op.equalIn (d + 1) 82 (.pointer (some ⟨a, 0, none⟩)) (.pointer (some ⟨a, 0, none⟩))).run Tryz.prog W = .ok true W := fun d => by
    simp [Op.equalIn, run_underlying Tryz.underlying82, sizeOf, typeInfo, hj, run_sameAddr_same]
  simp only [binOp]
  simp [Op.equal, Op.maxDepth, h 9999]
set_option maxRecDepth 100000 in
theorem vSetT (b : Nat) (w : World) : Calls Tryz.prog 181 #[.pointer (some ⟨b, 0, none⟩), .pointer (some ⟨b, 0, none⟩)] w (fun e w' => e = .returned (.pointer (some ⟨b, 0, none⟩)) ∧ w' = w) := by
  have hp := ptr_ne_same w b
  go_enter Tryz.func181, Tryz.ntmps181
  go_wp2
  go_ret
  exact ⟨rfl, rfl⟩
set_option maxRecDepth 100000 in
/-- Neg in place. -/
theorem vNegT (b g c : Nat) (z : Int) (w : World) (hv : BigV w b g c z) :
    Calls Tryz.prog 199 #[.pointer (some ⟨b, 0, none⟩), .pointer (some ⟨b, 0, none⟩)] w (fun e w' => e = .returned (.pointer (some ⟨b, 0, none⟩)) ∧ BigV w' b g c (-z) ∧ Only b w w') := by
  obtain ⟨hgb, A, ws, neg, hk, hw, hN, h0, hz⟩ := hv
  have c0 : w.cell? ⟨b, 0, none⟩ = some (.bool neg) := (hk.cell 0).trans rfl
  have c1 : w.cell? ⟨b, 1, none⟩ = some (.slice A ws.length c) := (hk.cell 1).trans rfl
  have f0 := hk.frozen 0
  have HF := Lib.hid (show ∀ s : Bool, (ws = [] → s = false) → bigVal s ws = -z → BigV (w.setCell ⟨b, 0, none⟩ (.bool s)) b g c (-z) ∧ Only b w (w.setCell ⟨b, 0, none⟩ (.bool s)) from fun s hs hv =>
    ⟨⟨hgb, A, ws, s, hk.set_ 0 _, hw.only ((Only.refl b w).set_ 0 _) (fun _ => hgb), hN, hs, hv.symm⟩, (Only.refl b w).set_ 0 _⟩)
  have HZ := Lib.hid hz
  clear hk hw hN hz
  obtain ⟨k, hk⟩ : ∃ k, ws.length = k := ⟨_, rfl⟩
  rw [hk] at c1
  rcases Nat.eq_zero_or_pos k with e0 | e0
  · subst e0
    have he : ws = [] := List.eq_nil_of_length_eq_zero hk
    have H1 := Lib.hid (HF.out false (fun _ => rfl) (by rw [HZ.out, he]; cases neg <;> simp [bigVal, natOf]))
    clear HF hk he h0
    go_enter Tryz.func199, Tryz.ntmps199
    go_wp2_with (go_at_call 181; refine (vSetT b _).mono ?_; rintro e w1 ⟨rfl, rfl⟩)
    go_ret
    exact ⟨rfl, H1.out⟩
  · have hd : (0 : Int) < (k : Int) := by omega
    have hne : ws ≠ [] := by intro e; subst e; simp at hk; omega
    have H1 := Lib.hid (HF.out (!neg) (fun e => absurd e hne) (by rw [HZ.out]; cases neg <;> simp [bigVal]))
    clear HF hk hne h0 e0
    go_enter Tryz.func199, Tryz.ntmps199
    go_wp2_with (go_at_call 181; refine (vSetT b _).mono ?_; rintro e w1 ⟨rfl, rfl⟩)
    go_ret
    exact ⟨rfl, H1.out⟩
/-- Half of 10^18. -/
def T17 : Int := 500000000000000000
set_option maxRecDepth 100000 in
theorem dFive (w : World) (hT : Thr w) : Calls Tryz.prog 227 #[] w (fun e w' => ∃ b, e = .returned (.pointer (some ⟨b, 0, none⟩)) ∧ w.heap.size ≤ b ∧ BigAt w' b T17 ∧ Ext w w') := by
  have HT := Lib.hid (hT.ext (Ext.alloc' w (.cells #[.bool false, .slice none 0 0] 126))); clear hT
  go_enter Tryz.func227, Tryz.ntmps227
  have hb := new0 w
  have e0 := Ext.alloc' w (.cells #[.bool false, .slice none 0 0] 126)
  have HB := Lib.hid hb; have E0 := Lib.hid e0
  clear hb e0
  go_wp2_with (fail)
  go_at_call 177
  refine (dPrec _ HT.out).mono ?_
  rintro e w1 ⟨p1, rfl, h1, x1⟩
  have E1 := Lib.hid x1; have H1 := Lib.hid h1; clear x1 h1
  go_wp2_with (fail)
  go_at_call 86
  refine (kNew 2 w1 (by omega) (by omega)).mono ?_
  rintro e w2 ⟨p2, rfl, h2, x2⟩
  have hE := E1.out.trans' x2
  have n1 : p1 ≠ w.heap.size := by have := H1.out.1; have := E0.out.size; simp at *; omega
  have n2 : p2 ≠ w.heap.size := by have := h2.1; have := E1.out.size; simp at *; omega
  have HX := Lib.hid (intQuo w.heap.size (.pointer (some ⟨p1, 0, none⟩)) (.pointer (some ⟨p2, 0, none⟩)) T18 2 w2 ((H1.out.k.at_.ext x2).big) (h2.k.at_.big) (HB.out.ext hE) (by unfold T18 B64; omega) (by unfold B64; omega) (by omega) (fun e => n1 (by injection e with e; injection e with e; injection e)) (fun e => n2 (by injection e with e; injection e with e; injection e)))
  have HE := Lib.hid (E0.out.trans' hE)
  clear hE h2 x2 n1 n2
  go_wp2_with (fail)
  go_at_call 178
  refine HX.out.mono ?_
  rintro e w3 ⟨rfl, hv, ho⟩
  have HV := Lib.hid (show BigAt w3 w.heap.size T17 ∧ Ext w w3 from ⟨by have := hv; rwa [show Int.tdiv T18 2 = T17 by unfold T18 T17; decide] at this, Only.ext HE.out ho (Nat.le_refl _)⟩)
  clear hv ho
  go_wp2
  go_ret
  exact ⟨_, rfl, Nat.le_refl _, HV.out⟩
end Go.Proofs.YtcoffndnfaemoaaGreatDoor

namespace Go.Proofs.YtcoffndnfaemoaaGreatDoor
open Go Go.RowKit

/-- To 18 digits less; a half goes to the even one. -/
def rnd0 (z : Int) : Int := if Int.tmod z T18 = 0 then Int.tdiv z T18 else if Int.tmod z T18 < T17 then Int.tdiv z T18 else if T17 < Int.tmod z T18 then Int.tdiv z T18 + 1 else if (Int.tdiv z T18).natAbs % 2 = 0 then Int.tdiv z T18 else Int.tdiv z T18 + 1
def rnd (z : Int) : Int := if z < 0 then -rnd0 (-z) else rnd0 z
def RetRF (w0 : World) (x : Nat) (z : Int) (e : Ending) (w' : World) : Prop := e = .returned (.pointer (some ⟨x, 0, none⟩)) ∧ BigF w0 w' x z ∧ Ext w0 w'
def RetRK (K : World → Prop) (w0 : World) (x : Nat) (z : Int) (e : Ending) (w' : World) : Prop := RetRF w0 x z e w' ∧ K w'
theorem addOne (K : World → Prop) (n9 : Nat) (w0 w w4 : World) (x p : Nat) (q : Int) (hE : Ext w0 w) (hx : BigF w0 w x q) (kq : Small q) (x4 : Ext w w4) (h4 : BigF w w4 p 1) (kx : Kx x n9 K) (hK : K w) :
    Calls Tryz.prog 88 #[.pointer (some ⟨x, 0, none⟩), .pointer (some ⟨x, 0, none⟩), .pointer (some ⟨p, 0, none⟩)] w4 (RetRK K w0 x (q + 1)) := by
  obtain ⟨k1, g, c, hv, k2⟩ := hx
  obtain ⟨g4, hv4, hg4, hsep, hx4⟩ := place_new hv x4 h4
  have hs3 := hE.size
  have hxs := x4.size
  have hgw : w0.heap.size ≤ g4 := by rcases hg4 with ⟨rfl, _⟩ | rfl <;> omega
  refine (pAdd x p g4 c q 1 w4 hv4 h4.k kq (by unfold Small; decide) hsep hx4).mono ?_
  rintro e w5 ⟨rfl, g', c', hv5, hg5, ho5⟩
  exact ⟨⟨rfl, ⟨k1, g', c', hv5, by rcases hg5 with rfl | h <;> omega⟩, ho5.ext (hE.trans' x4) k1 hgw⟩, kx.two x g4 w4 w5 (kx.ext _ _ hK x4) (Or.inl rfl) ho5 (by rcases hg4 with ⟨rfl, cs, hcs⟩ | rfl; exact Or.inl ⟨cs, hcs.ext x4⟩; exact Or.inr (Nat.le_refl _))⟩

set_option maxRecDepth 100000 in
set_option maxHeartbeats 1000000 in
theorem cRnd0 (K : World → Prop) (n9 : Nat) (w0 w : World) (x : Nat) (z : Int) (hE : Ext w0 w) (hx : BigF w0 w x z) (kz : Small z) (hT : Thr w0) (h0 : 0 ≤ z) (kx : Kx x n9 K) (hK : K w) (hn9 : n9 ≤ w.heap.size) :
    Calls Tryz.prog 176 #[.pointer (some ⟨x, 0, none⟩)] w (RetRK K w0 x (rnd0 z)) := by
  have HS := Lib.hid (intSign (.pointer (some ⟨x, 0, none⟩)) z w hx.k.at_.big)
  obtain ⟨s, hs⟩ : ∃ s, s = sgn z := ⟨_, rfl⟩
  rw [← hs] at HS
  have hsn : ¬ s = -1 := by rw [hs]; unfold sgn; split <;> (try split) <;> omega
  have e1 : (s == -1) = false := by simpa using hsn
  have HX := Lib.hid hx; have HE := Lib.hid hE; have HT := Lib.hid (hT.ext hE); have HT0 := Lib.hid hT
  have hxl := hx.k.lt
  have hs0 := hE.size
  have KX := Lib.hid kx; have HK := Lib.hid hK
  clear hs hx hE hT kx hK
  go_enter Tryz.func176, Tryz.ntmps176
  go_wp2_with (fail)
  go_at_call 98
  refine HS.out.mono ?_
  rintro e w1 ⟨rfl, rfl⟩
  go_wp2_with (fail)
  go_at_call 86
  refine (newZeroB _).mono ?_
  rintro e w1' ⟨rfl, rfl⟩
  have E2 := Lib.hid (HE.out.trans' (Ext.alloc' w1 (.cells #[.bool false, .slice none 0 0] 126)))
  have B2 := Lib.hid (new0 w1)
  have X2 := Lib.hid (HX.out.ext (Ext.alloc' w1 (.cells #[.bool false, .slice none 0 0] 126)))
  have K2 := Lib.hid (KX.out.ext _ _ HK.out (Ext.alloc' w1 (.cells #[.bool false, .slice none 0 0] 126)))
  obtain ⟨w2, hw2⟩ : ∃ w2, w2 = w1.alloc (.cells #[.bool false, .slice none 0 0] 126) := ⟨_, rfl⟩
  obtain ⟨rb, hrb⟩ : ∃ rb, rb = w1.heap.size := ⟨_, rfl⟩
  rw [← hw2, ← hrb] at B2
  rw [← hw2] at E2 X2 K2
  rw [← hw2, ← hrb]
  have hne : x ≠ rb := by omega
  have hrs : w0.heap.size ≤ rb := by omega
  have hrl : rb < w2.heap.size := B2.out.lt
  have hnr : n9 ≤ rb := by omega
  have hx2 := X2.out.k.lt
  clear hw2 hrb HX HE HT HS HK
  go_wp2_with (fail)
  go_at_call 177
  refine (dPrec _ (HT0.out.ext E2.out)).mono ?_
  rintro e w3 ⟨p1, rfl, h1, x1⟩
  have hp1 := h1.1
  have HQ := Lib.hid (pQuoRemK K n9 w0 w3 x rb p1 z (E2.out.trans' x1) (X2.out.ext x1) h1.k kz (B2.out.ext x1) hrs hne (by omega) (by omega) KX.out (KX.out.ext _ _ K2.out x1) hnr)
  clear h1 x1 hp1 E2 X2 B2 K2
  go_wp2_with (fail)
  go_at_call 140
  refine HQ.out.mono ?_
  rintro e w4 ⟨⟨rfl, hq, hr, hE4⟩, hK4⟩
  have X4 := Lib.hid hq; have R4 := Lib.hid hr; have E4 := Lib.hid hE4; have K4 := Lib.hid hK4
  clear hq hr hE4 HQ hK4
  obtain ⟨q, hqq⟩ : ∃ q, q = Int.tdiv z T18 := ⟨_, rfl⟩
  obtain ⟨r, hrr⟩ : ∃ r, r = Int.tmod z T18 := ⟨_, rfl⟩
  have hr0 : 0 ≤ r := by rw [hrr]; exact Int.tmod_nonneg _ h0
  have hrT : r < T18 := by rw [hrr]; exact Int.tmod_lt_of_pos _ (by unfold T18; omega)
  have kq : Small q := by rw [hqq]; unfold Small at kz ⊢; rw [Int.natAbs_tdiv]; exact Nat.lt_of_le_of_lt (Nat.div_le_self _ _) kz
  have V := Lib.hid (show rnd0 z = if r = 0 then q else if r < T17 then q else if T17 < r then q + 1 else if q.natAbs % 2 = 0 then q else q + 1 by rw [hqq, hrr]; rfl)
  rw [← hqq] at X4; rw [← hrr] at R4
  clear hqq hrr
  have KQ := Lib.hid kq
  clear kq kz h0
  go_wp2_with (fail)
  go_at_call 98
  refine (intSign (.pointer (some ⟨rb, 0, none⟩)) r _ R4.out.k.at_.big).mono ?_
  rintro e w5 ⟨rfl, rfl⟩
  by_cases hz : r = 0
  · have es : sgn r = 0 := by rw [hz]; rfl
    have V1 := Lib.hid (V.out.trans (if_pos hz))
    rw [es]
    clear hz es V
    go_wp2_with (fail)
    go_ret
    exact ⟨⟨rfl, by rw [V1.out]; exact X4.out, E4.out⟩, K4.out⟩
  · have es : sgn r = 1 := by unfold sgn; rw [if_neg (by omega), if_pos (by omega)]
    have V1 := Lib.hid (V.out.trans (if_neg hz))
    rw [es]
    clear es V
    go_wp2_with (fail)
    go_at_call 227
    refine (dFive _ (HT0.out.ext E4.out)).mono ?_
    rintro e w6 ⟨b5, rfl, hb5, h5, x5⟩
    have HC := Lib.hid (intCmp (.pointer (some ⟨rb, 0, none⟩)) (.pointer (some ⟨b5, 0, none⟩)) r T17 w6 (R4.out.k.at_.ext x5).big h5.big (by unfold T18 at hrT; unfold B64; omega) (by unfold T17 B64; decide))
    have X6 := Lib.hid (X4.out.ext x5); have E6 := Lib.hid (E4.out.trans' x5); have K6 := Lib.hid (KX.out.ext _ _ K4.out x5)
    clear hb5 h5 x5
    go_wp2_with (fail)
    go_at_call 180
    refine HC.out.mono ?_
    rintro e w7 ⟨rfl, n, hw7⟩
    have X7 := Lib.hid (show BigF w0 w7 x q by rw [hw7]; exact X6.out.ext (Ext.drewN' _ _)); have E7 := Lib.hid (show Ext w0 w7 by rw [hw7]; exact E6.out.trans' (Ext.drewN' _ _)); have K7 := Lib.hid (show K w7 by rw [hw7]; exact KX.out.ext _ _ K6.out (Ext.drewN' _ _))
    clear hw7 HC X6 E6 X4 E4 R4 K4 K6
    have HA := Lib.hid (fun p w8 (h8 : BigF w7 w8 p 1) (x8 : Ext w7 w8) => addOne K n9 w0 w7 w8 x p q E7.out X7.out KQ.out x8 h8 KX.out K7.out)
    by_cases h1 : r < T17
    · have ec : cmpZ r T17 = -1 := by unfold cmpZ; rw [if_pos h1]
      have V2 := Lib.hid (V1.out.trans (if_pos h1))
      rw [ec]
      clear ec V1
      go_wp2_with (fail)
      go_ret
      exact ⟨⟨rfl, by rw [V2.out]; exact X7.out, E7.out⟩, K7.out⟩
    · have V2 := Lib.hid (V1.out.trans (if_neg h1))
      by_cases h2 : T17 < r
      · have ec : cmpZ r T17 = 1 := by unfold cmpZ; rw [if_neg h1, if_pos h2]
        have V3 := Lib.hid (V2.out.trans (if_pos h2))
        rw [ec]
        clear ec V1 V2
        go_wp2_with (fail)
        go_at_call 228
        refine (dOneI _).mono ?_
        rintro e w8 ⟨p8, rfl, h8, x8⟩
        have HB := Lib.hid (HA.out p8 w8 h8 x8)
        clear h8 x8
        go_wp2_with (fail)
        go_at_call 88
        refine HB.out.mono ?_
        rintro e w9 ⟨⟨rfl, hx9, e9⟩, hk9⟩
        have X9 := Lib.hid hx9; have E9 := Lib.hid e9; have K9 := Lib.hid hk9; clear hx9 e9 hk9
        go_wp2_with (fail)
        go_ret
        exact ⟨⟨rfl, by rw [V3.out]; exact X9.out, E9.out⟩, K9.out⟩
      · have ec : cmpZ r T17 = 0 := by unfold cmpZ; rw [if_neg h1, if_neg h2]
        have V3 := Lib.hid (V2.out.trans (if_neg h2))
        rw [ec]
        clear ec V1 V2
        go_wp2_with (fail)
        go_at_call 229
        refine (intBit0 x q _ X7.out.k.at_).mono ?_
        rintro e w8 ⟨rfl, rfl⟩
        by_cases h3 : q.natAbs % 2 = 0
        · have V4 := Lib.hid (V3.out.trans (if_pos h3))
          rw [h3]
          go_wp2_with (fail)
          go_ret
          exact ⟨⟨rfl, by rw [V4.out]; exact X7.out, E7.out⟩, K7.out⟩
        · have e3 : q.natAbs % 2 = 1 := by omega
          have V4 := Lib.hid (V3.out.trans (if_neg h3))
          rw [e3]
          go_wp2_with (fail)
          go_at_call 228
          refine (dOneI _).mono ?_
          rintro e w9 ⟨p8, rfl, h8, x8⟩
          have HB := Lib.hid (HA.out p8 w9 h8 x8)
          clear h8 x8
          go_wp2_with (fail)
          go_at_call 88
          refine HB.out.mono ?_
          rintro e w10 ⟨⟨rfl, hx9, e9⟩, hk9⟩
          have X9 := Lib.hid hx9; have E9 := Lib.hid e9; have K9 := Lib.hid hk9; clear hx9 e9 hk9
          go_wp2_with (fail)
          go_ret
          exact ⟨⟨rfl, by rw [V4.out]; exact X9.out, E9.out⟩, K9.out⟩
set_option maxRecDepth 100000 in
theorem cRnd (K : World → Prop) (n9 : Nat) (w0 w : World) (x : Nat) (z : Int) (hE : Ext w0 w) (hx : BigF w0 w x z) (kz : Small z) (hT : Thr w0) (kx : Kx x n9 K) (hK : K w) (hn9 : n9 ≤ w.heap.size) :
    Calls Tryz.prog 176 #[.pointer (some ⟨x, 0, none⟩)] w (RetRK K w0 x (rnd z)) := by
  by_cases h0 : 0 ≤ z
  · have e : rnd z = rnd0 z := by unfold rnd; rw [if_neg (by omega)]
    rw [e]; exact cRnd0 K n9 w0 w x z hE hx kz hT h0 kx hK hn9
  have hz : rnd z = -rnd0 (-z) := by unfold rnd; rw [if_pos (by omega)]
  have V := Lib.hid hz
  have HS := Lib.hid (intSign (.pointer (some ⟨x, 0, none⟩)) z w hx.k.at_.big)
  have es : sgn z = -1 := by unfold sgn; rw [if_pos (by omega)]
  rw [es] at HS
  obtain ⟨hxb, g, c, hv, hg⟩ := hx
  have HN := Lib.hid (vNegT x g c z w hv)
  have HR := Lib.hid (fun w1 (h : Only x w w1) (hv : BigV w1 x g c (-z)) => cRnd0 K n9 w0 w1 x (-z) (Only.ext hE h hxb) ⟨hxb, g, c, hv, hg⟩ (by unfold Small at kz ⊢; rw [Int.natAbs_neg]; exact kz) hT (by omega) kx (kx.one hK (Or.inl rfl) h) (Nat.le_trans hn9 h.size))
  have KX := Lib.hid kx
  clear hz es hv hg hE h0 kz hT kx hK hn9
  go_enter Tryz.func176, Tryz.ntmps176
  go_wp2_with (fail)
  go_at_call 98
  refine HS.out.mono ?_
  rintro e w1 ⟨rfl, rfl⟩
  go_wp2_with (fail)
  go_at_call 199
  refine HN.out.mono ?_
  rintro e w2 ⟨rfl, hv2, ho2⟩
  have HR2 := Lib.hid (HR.out w2 ho2 hv2)
  clear HR HN HS hv2 ho2
  go_wp2_with (fail)
  go_at_call 176
  refine HR2.out.mono ?_
  rintro e w3 ⟨⟨rfl, ⟨_, g3, c3, hv3, hg3⟩, hE3⟩, hK3⟩
  have HN3 := Lib.hid (vNegT x g3 c3 _ w3 hv3)
  have E3 := Lib.hid hE3; have K3 := Lib.hid hK3
  clear HR2 hv3 hE3 hK3
  go_wp2_with (fail)
  go_at_call 199
  refine HN3.out.mono ?_
  rintro e w4 ⟨rfl, hv4, ho4⟩
  have K4 := Lib.hid (KX.out.one K3.out (Or.inl rfl) ho4)
  have H4 := Lib.hid (show BigF w0 w4 x (-rnd0 (-z)) ∧ Ext w0 w4 from ⟨⟨hxb, g3, c3, hv4, hg3⟩, Only.ext E3.out ho4 hxb⟩)
  clear hv4 ho4 HN3 E3
  go_wp2_with (fail)
  go_ret
  exact ⟨⟨rfl, by rw [V.out]; exact H4.out⟩, K4.out⟩
end Go.Proofs.YtcoffndnfaemoaaGreatDoor

namespace Go.Proofs.YtcoffndnfaemoaaGreatDoor
open Go Go.RowKit

/-- The boxes of an operation in place. -/
def BoxK (x n : Nat) (a : World) : Prop := Blk a n 84 [.pointer (some ⟨x, 0, none⟩)] ∧ Blk a (n + 2) 84 [.pointer none]
theorem kx_box {x n : Nat} (hx : x < n) : Kx x (n + 3) (BoxK x n) := by
  refine ⟨fun a a' h e => ⟨h.1.ext e, h.2.ext e⟩, fun y g a a' h hy ho hg => ?_⟩
  have h1 := h.1.lt; have h2 := h.2.lt
  have hn : n ≠ y ∧ n + 2 ≠ y := by rcases hy with rfl | h <;> omega
  have hm : n ≠ g ∧ n + 2 ≠ g := by
    rcases hg with ⟨cs, hcs⟩ | hg
    · exact ⟨h.1.ne hcs (by decide), h.2.ne hcs (by decide)⟩
    · omega
  exact ⟨ho.blk h.1 hn.1 hm.1, ho.blk h.2 hn.2 hm.2⟩

set_option maxRecDepth 100000 in
set_option maxHeartbeats 1000000 in
theorem cChopTK (K : World → Prop) (n9 : Nat) (w0 w : World) (x : Nat) (z : Int) (hE : Ext w0 w) (hx : BigF w0 w x z) (kz : Small z) (hT : Thr w0) (kx : Kx x n9 K) (hK : K w) :
    Calls Tryz.prog 164 #[.pointer (some ⟨x, 0, none⟩)] w (fun e w' => e = .returned (.tuple #[]) ∧ BigF w0 w' x (Int.tdiv z T18) ∧ Ext w0 w' ∧ K w') := by
  obtain ⟨hxb, g, c, hv, hg⟩ := hx
  have hxl := hv.k.lt
  have HV := Lib.hid hv; have HE := Lib.hid hE; have HT := Lib.hid (hT.ext hE)
  have KX := Lib.hid kx; have HK := Lib.hid hK
  have hs0 := hE.size
  clear hv hE hT kx hK
  go_enter Tryz.func164, Tryz.ntmps164
  go_wp2_with (fail)
  go_at_call 177
  refine (dPrec w HT.out).mono ?_
  rintro e w1 ⟨p1, rfl, h1, x1⟩
  obtain ⟨g3, hv3, hg3, _, n2⟩ := place_new HV.out x1 h1
  have hp1 := h1.1
  have hs1 := x1.size
  have n1 : p1 ≠ x := by omega
  have hgw : w0.heap.size ≤ g3 := by rcases hg3 with ⟨rfl, _⟩ | rfl <;> omega
  have HQ := Lib.hid (pQuoT x p1 g3 c z w1 hv3 h1.k kz n1 n2)
  have HE1 := Lib.hid (HE.out.trans' x1)
  have KO := Lib.hid (fun w2 (ho : Only2 x g3 w1 w2) => KX.out.two x g3 w1 w2 (KX.out.ext _ _ HK.out x1) (Or.inl rfl) ho (by rcases hg3 with ⟨rfl, cs, hcs⟩ | rfl; exact Or.inl ⟨cs, hcs.ext x1⟩; exact Or.inr (Nat.le_refl _)))
  clear hv3 hg3 h1 x1 n1 n2 hp1
  go_wp2_with (fail)
  go_at_call 178
  refine HQ.out.mono ?_
  rintro e w2 ⟨rfl, g', c', hv', hg', ho⟩
  have hE4 : Ext w0 w2 := ho.ext HE1.out hxb hgw
  have HR := Lib.hid (show BigF w0 w2 x (Int.tdiv z T18) ∧ Ext w0 w2 ∧ K w2 from ⟨⟨hxb, g', c', hv', by have := HE1.out.size; rcases hg' with rfl | h <;> omega⟩, hE4, KO.out w2 ho⟩)
  clear hv' hg' ho hE4
  go_wp2
  go_end0
  exact ⟨rfl, HR.out⟩

set_option maxRecDepth 100000 in
theorem dMulTMut (w0 w : World) (x x2 : Nat) (y z : Int) (hE : Ext w0 w) (hx : BigF w0 w x y) (hy : BigK w0 x2 z) (ky : Small y) (kz : Small z) (kyz : Small (y * z)) (hr : InR (Int.tdiv (y * z) T18)) (hT : Thr w0) :
    Calls Tryz.prog 127 #[.agg #[.pointer (some ⟨x, 0, none⟩)], .agg #[.pointer (some ⟨x2, 0, none⟩)]] w (RetMut w0 x (Int.tdiv (y * z) T18)) := by
  have e3 := ext3 w (decBox x) (decBox x2) (.cells #[.pointer none] 84)
  have hb0 := ((Blk.new w 84 [.pointer (some ⟨x, 0, none⟩)]).alloc (decBox x2)).alloc (.cells #[.pointer none] 84)
  have hbr := blk_new2 w (decBox x) (decBox x2) 84 [.pointer none]
  have hs3 : (((w.alloc (decBox x)).alloc (decBox x2)).alloc (.cells #[.pointer none] 84)).heap.size = w.heap.size + 3 := by simp
  obtain ⟨hxb, g, c, hxv, hgb⟩ := hx
  obtain ⟨g3, hv3, hg3⟩ := hxv.renew e3
  have hy2 := hy.lt
  have hxl := hxv.at_.lt
  rw [hs3] at hg3
  have hES := hE.size
  have HA := Lib.hid (pMul x x2 g3 c y z _ hv3 (hy.ext (hE.trans' e3)) ky kz (fun gy cy h => (hy.low (hE.trans' e3) gy cy h).imp id (fun h => by rcases hg3 with ⟨rfl, _⟩ | rfl <;> omega)) (by rcases hg3 with ⟨rfl, _⟩ | rfl <;> omega) (by omega) (hT.ext (hE.trans' e3)))
  have HE := Lib.hid hE; have E3 := Lib.hid e3; have HB0 := Lib.hid hb0; have HBR := Lib.hid hbr; have HT := Lib.hid hT; have HR := Lib.hid hr
  have hgw : w0.heap.size ≤ g3 := by rcases hg3 with ⟨rfl, _⟩ | rfl <;> omega
  have hn0 : w.heap.size ≠ g3 := by rcases hg3 with ⟨rfl, _⟩ | rfl <;> omega
  have hn2 : w.heap.size + 2 ≠ g3 := by rcases hg3 with ⟨rfl, _⟩ | rfl <;> omega
  clear e3 hb0 hbr hxv hv3 hg3 hy hE hT hr hs3
  go_enter Tryz.func127, Tryz.ntmps127
  go_wp2_with (fail)
  go_at_call 85
  refine HA.out.mono ?_
  rintro e w4 ⟨rfl, g', c', hv, hg', ho⟩
  have hE4 : Ext w0 w4 := ho.ext (HE.out.trans' E3.out) hxb hgw
  have hk0 := ho.blk HB0.out (by omega) hn0
  have hk2 := ho.blk HBR.out (by omega) hn2
  have c0 : w4.cell? ⟨w.heap.size, 0, none⟩ = some (.pointer (some ⟨x, 0, none⟩)) := (hk0.cell 0).trans rfl
  have HC := Lib.hid (cChopTK (BoxK x w.heap.size) (w.heap.size + 3) w0 w4 x (y * z) hE4 ⟨hxb, g', c', hv, by have := (HE.out.trans' E3.out).size; rcases hg' with rfl | h <;> omega⟩ kyz HT.out (kx_box hxl) ⟨hk0, hk2⟩)
  clear hv hg' ho hE4 hk0 hk2 HA kyz ky kz
  go_wp2_with (fail)
  go_at_call 164
  refine HC.out.mono ?_
  rintro e w4' ⟨rfl, hv, hE4, hk0, hk2⟩
  have c0' : w4'.cell? ⟨w.heap.size, 0, none⟩ = some (.pointer (some ⟨x, 0, none⟩)) := (hk0.cell 0).trans rfl
  have HS := Lib.hid (dAssert x (Int.tdiv (y * z) T18) w4' hv.k HR.out (HT.out.ext hE4))
  have HV := Lib.hid hv
  have HE4 := Lib.hid hE4; have HK2 := Lib.hid hk2
  clear hv hE4 hk0 hk2 c0 HC
  go_wp2_with (fail)
  go_at_call 165
  refine HS.out.mono ?_
  rintro e w5 ⟨rfl, x5⟩
  have c1 := x5.cell' c0'
  have hk := HK2.out.ext x5
  have c2 : w5.cell? ⟨w.heap.size + 2, 0, none⟩ = some (.pointer none) := (hk.cell 0).trans rfl
  have fz := hk.frozen 0
  have HF := Lib.hid (fun v => And.intro ((HV.out.ext x5).set_ hk 0 v) (Only.ext (HE4.out.trans' x5) ((Only.refl (w.heap.size + 2) w5).set_ 0 v) (by omega)))
  clear hk x5
  go_wp2
  exact bodyPost_ret (v := .agg #[.pointer (some ⟨x, 0, none⟩)]) (by simp [results, Tryz.results127, go_sem, c2]) rfl ⟨rfl, HF.out _⟩
end Go.Proofs.YtcoffndnfaemoaaGreatDoor

namespace Go.Proofs.YtcoffndnfaemoaaGreatDoor
open Go Go.RowKit

set_option maxRecDepth 100000 in
theorem dMulMut (w0 w : World) (x x2 : Nat) (y z : Int) (hE : Ext w0 w) (hx : BigF w0 w x y) (hy : BigK w0 x2 z) (ky : Small y) (kz : Small z) (kyz : Small (y * z)) (hr : InR (rnd (y * z))) (hT : Thr w0) :
    Calls Tryz.prog 133 #[.agg #[.pointer (some ⟨x, 0, none⟩)], .agg #[.pointer (some ⟨x2, 0, none⟩)]] w (RetMut w0 x (rnd (y * z))) := by
  have e3 := ext3 w (decBox x) (decBox x2) (.cells #[.pointer none] 84)
  have hb0 := ((Blk.new w 84 [.pointer (some ⟨x, 0, none⟩)]).alloc (decBox x2)).alloc (.cells #[.pointer none] 84)
  have hbr := blk_new2 w (decBox x) (decBox x2) 84 [.pointer none]
  have hs3 : (((w.alloc (decBox x)).alloc (decBox x2)).alloc (.cells #[.pointer none] 84)).heap.size = w.heap.size + 3 := by simp
  obtain ⟨hxb, g, c, hxv, hgb⟩ := hx
  obtain ⟨g3, hv3, hg3⟩ := hxv.renew e3
  have hy2 := hy.lt
  have hxl := hxv.at_.lt
  rw [hs3] at hg3
  have hES := hE.size
  have HA := Lib.hid (pMul x x2 g3 c y z _ hv3 (hy.ext (hE.trans' e3)) ky kz (fun gy cy h => (hy.low (hE.trans' e3) gy cy h).imp id (fun h => by rcases hg3 with ⟨rfl, _⟩ | rfl <;> omega)) (by rcases hg3 with ⟨rfl, _⟩ | rfl <;> omega) (by omega) (hT.ext (hE.trans' e3)))
  have HE := Lib.hid hE; have E3 := Lib.hid e3; have HB0 := Lib.hid hb0; have HBR := Lib.hid hbr; have HT := Lib.hid hT; have HR := Lib.hid hr
  have hgw : w0.heap.size ≤ g3 := by rcases hg3 with ⟨rfl, _⟩ | rfl <;> omega
  have hn0 : w.heap.size ≠ g3 := by rcases hg3 with ⟨rfl, _⟩ | rfl <;> omega
  have hn2 : w.heap.size + 2 ≠ g3 := by rcases hg3 with ⟨rfl, _⟩ | rfl <;> omega
  clear e3 hb0 hbr hxv hv3 hg3 hy hE hT hr hs3
  go_enter Tryz.func133, Tryz.ntmps133
  go_wp2_with (fail)
  go_at_call 85
  refine HA.out.mono ?_
  rintro e w4 ⟨rfl, g', c', hv, hg', ho⟩
  have hE4 : Ext w0 w4 := ho.ext (HE.out.trans' E3.out) hxb hgw
  have hk0 := ho.blk HB0.out (by omega) hn0
  have hk2 := ho.blk HBR.out (by omega) hn2
  have c0 : w4.cell? ⟨w.heap.size, 0, none⟩ = some (.pointer (some ⟨x, 0, none⟩)) := (hk0.cell 0).trans rfl
  have HC := Lib.hid (cRnd (BoxK x w.heap.size) (w.heap.size + 3) w0 w4 x (y * z) hE4 ⟨hxb, g', c', hv, by have := (HE.out.trans' E3.out).size; rcases hg' with rfl | h <;> omega⟩ kyz HT.out (kx_box hxl) ⟨hk0, hk2⟩ (by have := hk2.lt; omega))
  clear hv hg' ho hE4 hk0 hk2 HA kyz ky kz
  go_wp2_with (fail)
  go_at_call 176
  refine HC.out.mono ?_
  rintro e w4' ⟨⟨rfl, hv, hE4⟩, hk0, hk2⟩
  obtain ⟨_, gx, cx, ⟨hgx, A, ws, neg, hk, hw, hN, h0, hz⟩, hgg⟩ := hv
  have c0' : w4'.cell? ⟨w.heap.size, 0, none⟩ = some (.pointer (some ⟨x, 0, none⟩)) := (hk0.cell 0).trans rfl
  have d0 : w4'.cell? ⟨x, 0, none⟩ = some (.bool neg) := (hk.cell 0).trans rfl
  have d1 : w4'.cell? ⟨x, 1, none⟩ = some (.slice A ws.length cx) := (hk.cell 1).trans rfl
  have f0 := hk.frozen 0; have f1 := hk.frozen 1
  obtain ⟨k, hkk⟩ : ∃ k, ws.length = k := ⟨_, rfl⟩
  have ho : Only x w4' (((w4'.setCell ⟨x, 0, none⟩ (.bool neg)).setCell ⟨x, 1, none⟩ (.slice A k cx)).drew) := by
    have h1 := ((Only.refl x w4').set_ 0 (.bool neg)).set_ 1 (.slice A k cx)
    exact ⟨h1.os, h1.tape, h1.output, h1.size, h1.block⟩
  have HW := Lib.hid (show BigF w0 (((w4'.setCell ⟨x, 0, none⟩ (.bool neg)).setCell ⟨x, 1, none⟩ (.slice A k cx)).drew) x (rnd (y * z)) ∧ Ext w0 (((w4'.setCell ⟨x, 0, none⟩ (.bool neg)).setCell ⟨x, 1, none⟩ (.slice A k cx)).drew) ∧ BoxK x w.heap.size (((w4'.setCell ⟨x, 0, none⟩ (.bool neg)).setCell ⟨x, 1, none⟩ (.slice A k cx)).drew) from by
    subst hkk
    refine ⟨⟨hxb, gx, cx, ⟨hgx, A, ws, neg, ?_, hw.only ho (fun _ => hgx), hN, h0, hz⟩, hgg⟩, Only.ext hE4 ho hxb, ho.block' hk0 (by omega), ho.block' hk2 (by omega)⟩
    exact (hk.set_ 0 (.bool neg)).set_ 1 (.slice A ws.length cx))
  rw [hkk] at d1
  clear hk hw hN h0 hz hE4 hk0 hk2 c0 HC hkk ho hgx hgg
  go_wp2_with (fail)
  go_region
  obtain ⟨W, hW⟩ : ∃ W, W = ((w4'.setCell ⟨x, 0, none⟩ (.bool neg)).setCell ⟨x, 1, none⟩ (.slice A k cx)).drew := ⟨_, rfl⟩
  rw [← hW] at HW
  rw [← hW]
  clear hW c0' d0 d1 f0 f1
  have c0' : W.cell? ⟨w.heap.size, 0, none⟩ = some (.pointer (some ⟨x, 0, none⟩)) := (HW.out.2.2.1.cell 0).trans rfl
  have HS := Lib.hid (dAssert x (rnd (y * z)) W HW.out.1.k HR.out (HT.out.ext HW.out.2.1))
  have HV := Lib.hid HW.out.1
  have HE4 := Lib.hid HW.out.2.1; have HK2 := Lib.hid HW.out.2.2.2
  clear HW
  go_wp2_with (fail)
  go_at_call 165
  refine HS.out.mono ?_
  rintro e w5 ⟨rfl, x5⟩
  have c1 := x5.cell' c0'
  have hk := HK2.out.ext x5
  have c2 : w5.cell? ⟨w.heap.size + 2, 0, none⟩ = some (.pointer none) := (hk.cell 0).trans rfl
  have fz := hk.frozen 0
  have HF := Lib.hid (fun v => And.intro ((HV.out.ext x5).set_ hk 0 v) (Only.ext (HE4.out.trans' x5) ((Only.refl (w.heap.size + 2) w5).set_ 0 v) (by omega)))
  clear hk x5
  go_wp2
  exact bodyPost_ret (v := .agg #[.pointer (some ⟨x, 0, none⟩)]) (by simp [results, Tryz.results133, go_sem, c2]) rfl ⟨rfl, HF.out _⟩
end Go.Proofs.YtcoffndnfaemoaaGreatDoor

namespace Go.Proofs.YtcoffndnfaemoaaGreatDoor
open Go Go.RowKit

set_option maxRecDepth 100000 in
theorem dImmutMul (x x2 : Nat) (y z : Int) (w : World) (hx : BigK w x y) (hy : BigK w x2 z) (ky : Small y) (kz : Small z) (kyz : Small (y * z)) (hr : InR (rnd (y * z))) (hT : Thr w) :
    Calls Tryz.prog 126 #[.agg #[.pointer (some ⟨x, 0, none⟩)], .func (.func 133) #[] #[], .agg #[.pointer (some ⟨x2, 0, none⟩)]] w (RetDK (rnd (y * z)) w) := by
  have e3 := ext3 w (decBox x) (decBox x2) (.cells #[.pointer none] 84)
  have hbr := blk_new2 w (decBox x) (decBox x2) 84 [.pointer none]
  have hb1 := (blk_new1 w (decBox x) 84 [.pointer (some ⟨x2, 0, none⟩)]).alloc (.cells #[.pointer none] 84)
  have hb0 := ((Blk.new w 84 [.pointer (some ⟨x, 0, none⟩)]).alloc (decBox x2)).alloc (.cells #[.pointer none] 84)
  obtain ⟨W, hW⟩ : ∃ W, W = ((w.alloc (decBox x)).alloc (decBox x2)).alloc (.cells #[.pointer none] 84) := ⟨_, rfl⟩
  rw [← hW] at e3 hbr hb1 hb0
  have c0 : W.cell? ⟨w.heap.size, 0, none⟩ = some (.pointer (some ⟨x, 0, none⟩)) := (hb0.cell 0).trans rfl
  have c1 : W.cell? ⟨w.heap.size + 1, 0, none⟩ = some (.pointer (some ⟨x2, 0, none⟩)) := (hb1.cell 0).trans rfl
  rw [hW] at c0 c1
  have ED := Lib.hid (show Ext w W.drew from Below.drew e3)
  have HC := Lib.hid (dClone x y W.drew (hx.ext ED.out) ky)
  have HY := Lib.hid (hy.ext ED.out); have HT := Lib.hid (hT.ext ED.out); have HR := Lib.hid hr; have HBR := Lib.hid (show Blk W.drew (w.heap.size + 2) 84 [.pointer none] from hbr)
  subst hW
  clear e3 hbr hb1 hb0 hx hy hT hr
  go_enter Tryz.func126, Tryz.ntmps126
  go_wp2_with (fail)
  go_region_held3 (fun W => W.cell? ⟨w.heap.size, 0, none⟩ = some (.pointer (some ⟨x, 0, none⟩)) ∧ W.cell? ⟨w.heap.size + 1, 0, none⟩ = some (.pointer (some ⟨x2, 0, none⟩))) (first | exact ⟨c0, c1⟩ | exact c4 | exact c5 | exact c6 _) (first | (go_at_call 163; refine HC.out.mono ?_; rintro e w4 ⟨b, rfl, hf, x4⟩; have c4 : w4.cell? ⟨w.heap.size, 0, none⟩ = some (.pointer (some ⟨x, 0, none⟩)) ∧ w4.cell? ⟨w.heap.size + 1, 0, none⟩ = some (.pointer (some ⟨x2, 0, none⟩)) := ⟨x4.cell' c0, x4.cell' c1⟩; have HM := Lib.hid (dMulMut _ w4 b x2 y z x4 hf HY.out ky kz kyz HR.out HT.out); clear hf x4) | (go_at_call 133; refine HM.out.mono ?_; rintro e w5 ⟨rfl, hf5, x5⟩; have c5 : w5.cell? ⟨w.heap.size, 0, none⟩ = some (.pointer (some ⟨x, 0, none⟩)) ∧ w5.cell? ⟨w.heap.size + 1, 0, none⟩ = some (.pointer (some ⟨x2, 0, none⟩)) := ⟨x5.cell' c0, x5.cell' c1⟩; have c6 : ∀ v, (w5.setCell ⟨w.heap.size + 2, 0, none⟩ v).cell? ⟨w.heap.size, 0, none⟩ = some (.pointer (some ⟨x, 0, none⟩)) ∧ (w5.setCell ⟨w.heap.size + 2, 0, none⟩ v).cell? ⟨w.heap.size + 1, 0, none⟩ = some (.pointer (some ⟨x2, 0, none⟩)) := fun v => ⟨set_far c5.1 (Nat.ne_of_lt (by simp)), set_far c5.2 (Nat.ne_of_lt (by simp))⟩; have HK := Lib.hid (HBR.out.ext x5); have c2 : w5.cell? ⟨w.heap.size + 2, 0, none⟩ = some (.pointer none) := (HK.out.cell 0).trans rfl; have fz := HK.out.frozen 0; have HF := Lib.hid (fun v => And.intro ((hf5.old ED.out).set_ HK.out 0 v) (Only.ext (ED.out.trans' x5) ((Only.refl (w.heap.size + 2) w5).set_ 0 v) (by omega))); clear x5 hf5))
  go_wp2
  exact bodyPost_ret (v := .agg #[.pointer (some ⟨b, 0, none⟩)]) (by simp [results, Tryz.results126, go_sem, c2]) rfl ⟨_, rfl, HF.out _⟩
set_option maxRecDepth 100000 in
theorem dMul (x x2 : Nat) (y z : Int) (w : World) (hx : BigK w x y) (hy : BigK w x2 z) (ky : Small y) (kz : Small z) (kyz : Small (y * z)) (hr : InR (rnd (y * z))) (hT : Thr w) :
    Calls Tryz.prog 90 #[.agg #[.pointer (some ⟨x, 0, none⟩)], .agg #[.pointer (some ⟨x2, 0, none⟩)]] w (RetDK (rnd (y * z)) w) := by
  have e3 := ext3 w (decBox x) (decBox x2) (.cells #[.pointer none] 84)
  have hbr := blk_new2 w (decBox x) (decBox x2) 84 [.pointer none]
  have HC := Lib.hid (dImmutMul x x2 y z _ (hx.ext e3) (hy.ext e3) ky kz kyz hr (hT.ext e3))
  have E3 := Lib.hid e3; have HBR := Lib.hid hbr
  clear e3 hbr hx hy hT hr
  go_enter Tryz.func90, Tryz.ntmps90
  go_wp2_with (fail)
  go_at_call 126
  refine HC.out.mono ?_
  rintro e w5 ⟨b, rfl, hf5, x5⟩
  have hk := HBR.out.ext x5
  have c2 : w5.cell? ⟨w.heap.size + 2, 0, none⟩ = some (.pointer none) := (hk.cell 0).trans rfl
  have fz := hk.frozen 0
  have HF := Lib.hid (fun v => And.intro ((hf5.old E3.out).set_ hk 0 v) (Only.ext (E3.out.trans' x5) ((Only.refl (w.heap.size + 2) w5).set_ 0 v) (by omega)))
  clear hk x5 hf5
  go_wp2
  exact bodyPost_ret (v := .agg #[.pointer (some ⟨b, 0, none⟩)]) (by simp [results, Tryz.results90, go_sem, c2]) rfl ⟨_, rfl, HF.out _⟩

set_option maxRecDepth 100000 in
theorem dImmutMulT (x x2 : Nat) (y z : Int) (w : World) (hx : BigK w x y) (hy : BigK w x2 z) (ky : Small y) (kz : Small z) (kyz : Small (y * z)) (hr : InR (Int.tdiv (y * z) T18)) (hT : Thr w) :
    Calls Tryz.prog 126 #[.agg #[.pointer (some ⟨x, 0, none⟩)], .func (.func 127) #[] #[], .agg #[.pointer (some ⟨x2, 0, none⟩)]] w (RetDK (Int.tdiv (y * z) T18) w) := by
  have e3 := ext3 w (decBox x) (decBox x2) (.cells #[.pointer none] 84)
  have hbr := blk_new2 w (decBox x) (decBox x2) 84 [.pointer none]
  have hb1 := (blk_new1 w (decBox x) 84 [.pointer (some ⟨x2, 0, none⟩)]).alloc (.cells #[.pointer none] 84)
  have hb0 := ((Blk.new w 84 [.pointer (some ⟨x, 0, none⟩)]).alloc (decBox x2)).alloc (.cells #[.pointer none] 84)
  obtain ⟨W, hW⟩ : ∃ W, W = ((w.alloc (decBox x)).alloc (decBox x2)).alloc (.cells #[.pointer none] 84) := ⟨_, rfl⟩
  rw [← hW] at e3 hbr hb1 hb0
  have c0 : W.cell? ⟨w.heap.size, 0, none⟩ = some (.pointer (some ⟨x, 0, none⟩)) := (hb0.cell 0).trans rfl
  have c1 : W.cell? ⟨w.heap.size + 1, 0, none⟩ = some (.pointer (some ⟨x2, 0, none⟩)) := (hb1.cell 0).trans rfl
  rw [hW] at c0 c1
  have ED := Lib.hid (show Ext w W.drew from Below.drew e3)
  have HC := Lib.hid (dClone x y W.drew (hx.ext ED.out) ky)
  have HY := Lib.hid (hy.ext ED.out); have HT := Lib.hid (hT.ext ED.out); have HR := Lib.hid hr; have HBR := Lib.hid (show Blk W.drew (w.heap.size + 2) 84 [.pointer none] from hbr)
  subst hW
  clear e3 hbr hb1 hb0 hx hy hT hr
  go_enter Tryz.func126, Tryz.ntmps126
  go_wp2_with (fail)
  go_region_held3 (fun W => W.cell? ⟨w.heap.size, 0, none⟩ = some (.pointer (some ⟨x, 0, none⟩)) ∧ W.cell? ⟨w.heap.size + 1, 0, none⟩ = some (.pointer (some ⟨x2, 0, none⟩))) (first | exact ⟨c0, c1⟩ | exact c4 | exact c5 | exact c6 _) (first | (go_at_call 163; refine HC.out.mono ?_; rintro e w4 ⟨b, rfl, hf, x4⟩; have c4 : w4.cell? ⟨w.heap.size, 0, none⟩ = some (.pointer (some ⟨x, 0, none⟩)) ∧ w4.cell? ⟨w.heap.size + 1, 0, none⟩ = some (.pointer (some ⟨x2, 0, none⟩)) := ⟨x4.cell' c0, x4.cell' c1⟩; have HM := Lib.hid (dMulTMut _ w4 b x2 y z x4 hf HY.out ky kz kyz HR.out HT.out); clear hf x4) | (go_at_call 127; refine HM.out.mono ?_; rintro e w5 ⟨rfl, hf5, x5⟩; have c5 : w5.cell? ⟨w.heap.size, 0, none⟩ = some (.pointer (some ⟨x, 0, none⟩)) ∧ w5.cell? ⟨w.heap.size + 1, 0, none⟩ = some (.pointer (some ⟨x2, 0, none⟩)) := ⟨x5.cell' c0, x5.cell' c1⟩; have c6 : ∀ v, (w5.setCell ⟨w.heap.size + 2, 0, none⟩ v).cell? ⟨w.heap.size, 0, none⟩ = some (.pointer (some ⟨x, 0, none⟩)) ∧ (w5.setCell ⟨w.heap.size + 2, 0, none⟩ v).cell? ⟨w.heap.size + 1, 0, none⟩ = some (.pointer (some ⟨x2, 0, none⟩)) := fun v => ⟨set_far c5.1 (Nat.ne_of_lt (by simp)), set_far c5.2 (Nat.ne_of_lt (by simp))⟩; have HK := Lib.hid (HBR.out.ext x5); have c2 : w5.cell? ⟨w.heap.size + 2, 0, none⟩ = some (.pointer none) := (HK.out.cell 0).trans rfl; have fz := HK.out.frozen 0; have HF := Lib.hid (fun v => And.intro ((hf5.old ED.out).set_ HK.out 0 v) (Only.ext (ED.out.trans' x5) ((Only.refl (w.heap.size + 2) w5).set_ 0 v) (by omega))); clear x5 hf5))
  go_wp2
  exact bodyPost_ret (v := .agg #[.pointer (some ⟨b, 0, none⟩)]) (by simp [results, Tryz.results126, go_sem, c2]) rfl ⟨_, rfl, HF.out _⟩
set_option maxRecDepth 100000 in
theorem dMulT (x x2 : Nat) (y z : Int) (w : World) (hx : BigK w x y) (hy : BigK w x2 z) (ky : Small y) (kz : Small z) (kyz : Small (y * z)) (hr : InR (Int.tdiv (y * z) T18)) (hT : Thr w) :
    Calls Tryz.prog 83 #[.agg #[.pointer (some ⟨x, 0, none⟩)], .agg #[.pointer (some ⟨x2, 0, none⟩)]] w (RetDK (Int.tdiv (y * z) T18) w) := by
  have e3 := ext3 w (decBox x) (decBox x2) (.cells #[.pointer none] 84)
  have hbr := blk_new2 w (decBox x) (decBox x2) 84 [.pointer none]
  have HC := Lib.hid (dImmutMulT x x2 y z _ (hx.ext e3) (hy.ext e3) ky kz kyz hr (hT.ext e3))
  have E3 := Lib.hid e3; have HBR := Lib.hid hbr
  clear e3 hbr hx hy hT hr
  go_enter Tryz.func83, Tryz.ntmps83
  go_wp2_with (fail)
  go_at_call 126
  refine HC.out.mono ?_
  rintro e w5 ⟨b, rfl, hf5, x5⟩
  have hk := HBR.out.ext x5
  have c2 : w5.cell? ⟨w.heap.size + 2, 0, none⟩ = some (.pointer none) := (hk.cell 0).trans rfl
  have fz := hk.frozen 0
  have HF := Lib.hid (fun v => And.intro ((hf5.old E3.out).set_ hk 0 v) (Only.ext (E3.out.trans' x5) ((Only.refl (w.heap.size + 2) w5).set_ 0 v) (by omega)))
  clear hk x5 hf5
  go_wp2
  exact bodyPost_ret (v := .agg #[.pointer (some ⟨b, 0, none⟩)]) (by simp [results, Tryz.results83, go_sem, c2]) rfl ⟨_, rfl, HF.out _⟩

end Go.Proofs.YtcoffndnfaemoaaGreatDoor

namespace Go.Proofs.YtcoffndnfaemoaaGreatDoor

/-- The specification's cut of a magnitude by 18 digits (t: truncated). -/
def cutN (t : Bool) (N : Nat) : Nat := if t = false ∧ (500000000000000000 < N % 1000000000000000000 ∨ (N % 1000000000000000000 = 500000000000000000 ∧ N / 1000000000000000000 % 2 = 1)) then N / 1000000000000000000 + 1 else N / 1000000000000000000
theorem rnd0_cut (N : Nat) : rnd0 (N : Int) = (cutN false N : Int) := by
  unfold rnd0 cutN T17 T18
  rw [Int.tmod_eq_emod_of_nonneg (by omega), Int.tdiv_eq_ediv_of_nonneg (by omega)]
  have e : ((N : Int) / 1000000000000000000).natAbs = N / 1000000000000000000 := by omega
  rw [e]
  generalize hq : N / 1000000000000000000 = q
  generalize hr : N % 1000000000000000000 = r
  have e1 : (N : Int) / 1000000000000000000 = (q : Int) := by omega
  have e2 : (N : Int) % 1000000000000000000 = (r : Int) := by omega
  rw [e1, e2]
  have h2 : q % 2 = 0 ∨ q % 2 = 1 := by omega
  simp only [true_and]
  split
  · rw [if_neg (by omega)]
  · split
    · rw [if_neg (by omega)]
    · split
      · rw [if_pos (by omega)]; omega
      · split
        · rw [if_neg (by omega)]
        · rw [if_pos (by omega)]; omega
theorem rnd_cut (z : Int) : rnd z = if z < 0 then -(cutN false z.natAbs : Int) else (cutN false z.natAbs : Int) := by
  unfold rnd
  split
  · rw [show -z = ((z.natAbs : Nat) : Int) by omega, rnd0_cut]
  · rw [← rnd0_cut, show ((z.natAbs : Nat) : Int) = z by omega]
theorem tdiv_cut (z : Int) : Int.tdiv z T18 = if z < 0 then -(cutN true z.natAbs : Int) else (cutN true z.natAbs : Int) := by
  unfold cutN T18
  simp only [Bool.true_eq_false, false_and, if_false]
  split
  · obtain ⟨n, rfl⟩ : ∃ n : Nat, z = -(n : Int) := ⟨z.natAbs, by omega⟩
    rw [Int.neg_tdiv, Int.tdiv_eq_ediv_of_nonneg (by omega), Int.natAbs_neg, Int.natAbs_natCast]
    omega
  · rw [Int.tdiv_eq_ediv_of_nonneg (by omega)]
    omega
/-- A product's magnitude and sign. -/
theorem mul_mag (y z : Int) : (y * z).natAbs = y.natAbs * z.natAbs := Int.natAbs_mul y z
end Go.Proofs.YtcoffndnfaemoaaGreatDoor
