/-
  What a coin tells of itself: Coin.Validate every way, IsValid, impl.CoinErr, impl.AboutOne.
  The specification's sumDigits: a number in digits.
  The specification's SumText: coins as a text.
-/
import Derived.Test.YtfafiahefjimdaaGreatDoorIB
import Derived.Test.YtfafiahefjimdaaGreatDoorHK
import Derived.Deep.RegionHeld3
import Derived.Deep.RegionLaw
import Derived.IntWalk
import Derived.Test.YtfafiahefjimdaaGreatDoorHG
namespace Go.Proofs.YtfafiahefjimdaaGreatDoor
open Go Go.RowKit

/-- "negative coin amount". -/
abbrev negCoin : ByteArray := ⟨#[110, 101, 103, 97, 116, 105, 118, 101, 32, 99, 111, 105, 110, 32, 97, 109, 111, 117, 110, 116]⟩
/-- What is wrong with a coin. -/
def coinBad (s : ByteArray) (z : Int) : Option ByteArray := if denomB s = true then (if z < 0 then some negCoin else none) else some invDenom
/-- An error, or none. -/
def RetO (o : Option ByteArray) (w : World) (e : Ending) (w' : World) : Prop := (o = none ∧ e = .returned .nilIface ∧ Ext w w') ∨ (∃ t, o = some t ∧ RetErr t w e w')
theorem sgn_neg {z : Int} (h : z < 0) : (sgn z == -1) = true := by
  unfold sgn
  rw [if_pos h]; rfl

set_option maxRecDepth 100000 in
theorem tCoinVal (s : ByteArray) (b : Nat) (z : Int) (w : World) (h : BigAt w b z) (hsz : s.size ≤ 9223372036854775807) :
    Calls Tryz.prog 107 #[coinV s b] w (RetO (coinBad s z) w) := by
  have k1 := Lib.hid (blk_new0 w 152 [.string s, .pointer (some ⟨b, 0, none⟩)])
  have HB := Lib.hid (h.ext (ext1 w (coinBox s b)))
  have HV := Lib.hid (fun W => tValid s W hsz)
  have HNE := Lib.hid (fun W => eNew negCoin W)
  by_cases hs : denomB s = true
  · by_cases hz : z < 0
    · have e : coinBad s z = some negCoin := by unfold coinBad; rw [if_pos hs, if_pos hz]
      rw [e]
      have hsg := sgn_neg hz
      clear h hz hsz e
      go_enter Tryz.func107, Tryz.ntmps107
      go_wp2_with (first | (go_at_call 91; refine (HV.out _).mono ?_; rintro e w1 hv; rcases hv with ⟨_, rfl, rfl⟩ | ⟨hf, _⟩; rotate_left; (exact absurd hf (by rw [hs]; exact Bool.noConfusion))) | (go_at_call 159; refine (mIsNil b z _ (by exact HB.out)).mono ?_; rintro e w1 ⟨rfl, hE⟩; have HE := Lib.hid hE; clear hE; have p1 : w1.cell? ⟨w.heap.size, 1, none⟩ = some (.pointer (some ⟨b, 0, none⟩)) := ((k1.out.ext HE.out).cell 1).trans rfl) | (go_at_call 160; refine (mIsNegative b z _ (by exact HB.out.ext HE.out)).mono ?_; rintro e w2 ⟨rfl, hE⟩; have HE2 := Lib.hid hE; clear hE) | (go_at_call 148; (with_reducible refine (HNE.out _).mono ?_); rintro e w3 ⟨q, rfl, hq, hE⟩; have HQ := Lib.hid hq; have HE3 := Lib.hid hE; clear hq hE))
      go_ret
      exact Or.inr ⟨_, rfl, _, rfl, HQ.out, (ext1 _ _).trans' (HE.out.trans' (HE2.out.trans' HE3.out))⟩
    · have e : coinBad s z = none := by unfold coinBad; rw [if_pos hs, if_neg hz]
      rw [e]
      refine (tCoinOk s b z w h hs (by omega) hsz).mono ?_
      rintro e w' ⟨rfl, hE⟩
      exact Or.inl ⟨rfl, rfl, hE⟩
  · have e : coinBad s z = some invDenom := by unfold coinBad; rw [if_neg hs]
    rw [e]
    clear h hsz e
    go_enter Tryz.func107, Tryz.ntmps107
    go_wp2_with (first | (go_at_call 91; refine (HV.out _).mono ?_; rintro e w1 hv; rcases hv with ⟨hf, _, _⟩ | ⟨_, q, rfl, hq, hE⟩; (exact absurd hf hs); have HQ := Lib.hid hq; have HE := Lib.hid hE; clear hq hE))
    go_ret
    exact Or.inr ⟨_, rfl, _, rfl, HQ.out, (ext1 _ _).trans' HE.out⟩

set_option maxRecDepth 100000 in
theorem tCoinIsValid (s : ByteArray) (b : Nat) (z : Int) (w : World) (h : BigAt w b z) (hsz : s.size ≤ 9223372036854775807) :
    Calls Tryz.prog 102 #[coinV s b] w (RetE (.bool (coinBad s z).isNone) w) := by
  have H := Lib.hid (tCoinVal s b z _ (h.ext (ext1 w (coinBox s b))) hsz)
  obtain ⟨o, ho⟩ : ∃ o, o = coinBad s z := ⟨_, rfl⟩
  rw [← ho] at H ⊢
  clear h hsz ho
  cases o
  · go_enter Tryz.func102, Tryz.ntmps102
    go_wp2_with (go_at_call 107; refine H.out.mono ?_; rintro e w1 hv; rcases hv with ⟨_, rfl, hE⟩ | ⟨_, hf, _⟩; rotate_left; (cases hf); have HE := Lib.hid hE; clear hE)
    go_ret
    exact ⟨rfl, (ext1 _ _).trans' HE.out⟩
  · go_enter Tryz.func102, Tryz.ntmps102
    go_wp2_with (go_at_call 107; refine H.out.mono ?_; rintro e w1 hv; rcases hv with ⟨hf, _, _⟩ | ⟨_, _, q, rfl, hq, hE⟩; (cases hf); have HE := Lib.hid hE; clear hE hq)
    go_ret
    exact ⟨rfl, (ext1 _ _).trans' HE.out⟩

set_option maxRecDepth 100000 in
theorem iCoinErr (s : ByteArray) (z : Int) (w : World) (hz : z.natAbs ≤ 1125899906842624) (hsz : s.size ≤ 9223372036854775807) :
    Calls Tryz.prog 49 #[.agg #[.string s, .int .i64 z]] w (RetE (.string ((coinBad s z).getD ⟨#[]⟩)) w) := by
  have HY := Lib.hid (fun W : World => iCoin s z W (by unfold maxI; omega) (by unfold maxI; omega))
  have H := Lib.hid (fun (W : World) b h => tCoinVal s b z W h hsz)
  obtain ⟨o, ho⟩ : ∃ o, o = coinBad s z := ⟨_, rfl⟩
  rw [← ho] at H ⊢
  clear hz hsz ho
  cases o
  · go_enter Tryz.func49, Tryz.ntmps49
    go_wp2_with (first | (go_at_call 100; (with_reducible refine (HY.out _).mono ?_); rintro e w1 ⟨b, rfl, hB, hE⟩; have HB := Lib.hid hB; have HE := Lib.hid hE; clear hB hE) | (go_at_call 107; refine (H.out _ _ HB.out).mono ?_; rintro e w2 hv; rcases hv with ⟨_, rfl, hE⟩ | ⟨_, hf, _⟩; rotate_left; (cases hf); have HE2 := Lib.hid hE; clear hE) | (go_at_call 106; refine (iWordNil _).mono ?_; rintro e w3 ⟨rfl, hw⟩; obtain rfl := hw.symm))
    go_ret
    exact ⟨rfl, (ext1 _ _).trans' (HE.out.trans' HE2.out)⟩
  · go_enter Tryz.func49, Tryz.ntmps49
    go_wp2_with (first | (go_at_call 100; (with_reducible refine (HY.out _).mono ?_); rintro e w1 ⟨b, rfl, hB, hE⟩; have HB := Lib.hid hB; have HE := Lib.hid hE; clear hB hE) | (go_at_call 107; refine (H.out _ _ HB.out).mono ?_; rintro e w2 hv; rcases hv with ⟨hf, _, _⟩ | ⟨tt, ht, q, rfl, hq, hE⟩; (cases hf); injection ht with ht; subst ht; have HQ := Lib.hid hq; have HE2 := Lib.hid hE; clear hE hq) | (go_at_call 106; refine (iWordErr _ _ _ HQ.out).mono ?_; rintro e w3 ⟨rfl, hw⟩; obtain rfl := hw.symm))
    go_ret
    exact ⟨rfl, (ext1 _ _).trans' (HE.out.trans' HE2.out)⟩

/-- A coin that a region reads. -/
def C2 (p : Nat) (s : ByteArray) (a : Nat) (w' : World) : Prop := w'.cell? ⟨p, 0, none⟩ = some (.string s) ∧ w'.cell? ⟨p, 1, none⟩ = some (.pointer (some ⟨a, 0, none⟩))
theorem C2.ext {p a : Nat} {s : ByteArray} {w w' : World} (h : C2 p s a w) (e : Ext w w') : C2 p s a w' := ⟨e.cell' h.1, e.cell' h.2⟩
theorem C2.drew {p a : Nat} {s : ByteArray} {w : World} (h : C2 p s a w) : C2 p s a w.drew := h
theorem C2.set1 {p a g i : Nat} {s : ByteArray} {w : World} {u : Value} (h : C2 p s a w) (h1 : p ≠ g) : C2 p s a (w.setCell ⟨g, i, none⟩ u) := ⟨set_far h.1 h1, set_far h.2 h1⟩

set_option maxRecDepth 100000 in
set_option maxHeartbeats 4000000 in
theorem iAboutOne (s : ByteArray) (z : Int) (w : World) (hz : z.natAbs ≤ 1125899906842624) (hsz : s.size ≤ 4611686018427387904) (hL : Leaf w) (r0 : ByteArray) (r1 r2 r3 r4 : Bool) (h0 : r0 = strB (decZ z) ++ s) (h1 : r1 = (coinBad s z).isNone) (h2 : r2 = (sgn z == 0)) (h3 : r3 = (sgn z == 1)) (h4 : r4 = (sgn z == -1)) :
    Calls Tryz.prog 48 #[.agg #[.string s, .int .i64 z]] w (RetE (.agg #[.string r0, .bool r1, .bool r2, .bool r3, .bool r4]) w) := by
  have HR0 := Lib.hid h0; have HR1 := Lib.hid h1; have HR2 := Lib.hid h2; have HR3 := Lib.hid h3; have HR4 := Lib.hid h4
  have HY := Lib.hid (fun W : World => iCoin s z W (by unfold maxI; omega) (by unfold maxI; omega))
  have HZB := Lib.hid (show z.natAbs < B64 * B64 by unfold B64; omega)
  have HSZ := Lib.hid (show s.size ≤ 4611686018427387904 ∧ s.size ≤ 9223372036854775807 by omega)
  obtain ⟨W, hW⟩ : ∃ W, W = (w.alloc (planBox s z)).alloc (.cells #[.string ⟨#[]⟩, .bool false, .bool false, .bool false, .bool false] 89) := ⟨_, rfl⟩
  have K1 := Lib.hid (show Blk W (w.heap.size + 1) 89 [.string ⟨#[]⟩, .bool false, .bool false, .bool false, .bool false] by rw [hW]; exact blk_new1 w (planBox s z) 89 [.string ⟨#[]⟩, .bool false, .bool false, .bool false, .bool false])
  have K0 := Lib.hid (show Blk W w.heap.size 55 [.string s, .int .i64 z] by rw [hW]; exact (blk_new0 w 55 [.string s, .int .i64 z]).alloc _)
  have EW := Lib.hid (show Ext w W by rw [hW]; exact ext2 _ _ _)
  have cs0 : W.cell? ⟨w.heap.size, 0, none⟩ = some (.string s) := (K0.out.cell 0).trans rfl
  have cs1 : W.cell? ⟨w.heap.size, 1, none⟩ = some (.int .i64 z) := (K0.out.cell 1).trans rfl
  have HLL := Lib.hid hL
  have HWW := Lib.hid hW; clear hW h0 h1 h2 h3 h4 hz hsz hL
  go_enter Tryz.func48, Tryz.ntmps48
  go_upto_region 1 with fail
  rw [← HWW.out]
  go_wp2_with (fail)
  go_at_call 100
  refine (HY.out _).mono ?_
  rintro e w1 ⟨b, rfl, hB, hE⟩
  obtain ⟨W2, hW2⟩ : ∃ W2, W2 = w1.alloc (coinBox s b) := ⟨_, rfl⟩
  have KC := Lib.hid (show Blk W2 w1.heap.size 152 [.string s, .pointer (some ⟨b, 0, none⟩)] by rw [hW2]; exact blk_new0 w1 _ [.string s, .pointer (some ⟨b, 0, none⟩)])
  have E2 := Lib.hid (show Ext W W2 by rw [hW2]; exact hE.trans' (ext1 _ _))
  have HB := Lib.hid (show BigAt W2 b z by rw [hW2]; exact hB.ext (ext1 _ _))
  have HL := Lib.hid (HLL.out.ext (EW.out.trans' E2.out))
  have KR := Lib.hid (K1.out.ext E2.out)
  have KK0 := Lib.hid (show C2 w1.heap.size s b W2 from ⟨(KC.out.cell 0).trans rfl, (KC.out.cell 1).trans rfl⟩)
  have c0 := KK0.out.1
  have c1 := KK0.out.2
  have NP := Lib.hid (KC.out.ne KR.out (by decide))
  have HW2 := Lib.hid hW2
  clear hB hE hW2 cs0 cs1
  go_upto_region 2 with fail
  rw [← HW2.out]
  have G0 := Lib.hid (fun (V : World) (e : Ext W2 V) => show Calls Tryz.prog 101 #[coinV s b] V (RetE (.string r0) V) by rw [HR0.out]; exact tString s b z V (HB.out.ext e) HZB.out (HL.out.ext e) HSZ.out.1)
  have G1 := Lib.hid (fun (V : World) (e : Ext W2 V) => show Calls Tryz.prog 102 #[coinV s b] V (RetE (.bool r1) V) by rw [HR1.out]; exact tCoinIsValid s b z V (HB.out.ext e) HSZ.out.2)
  have G2 := Lib.hid (fun (V : World) (e : Ext W2 V) => show Calls Tryz.prog 103 #[coinV s b] V (RetE (.bool r2) V) by rw [HR2.out]; exact tIsZero s b z V (HB.out.ext e))
  have G3 := Lib.hid (fun (V : World) (e : Ext W2 V) => show Calls Tryz.prog 104 #[coinV s b] V (RetE (.bool r3) V) by rw [HR3.out]; exact tIsPositive s b z V (HB.out.ext e))
  have G4 := Lib.hid (fun (V : World) (e : Ext W2 V) => show Calls Tryz.prog 105 #[coinV s b] V (RetE (.bool r4) V) by rw [HR4.out]; exact tIsNegative s b z V (HB.out.ext e))
  go_region_held3 (fun w' => w'.cell? ⟨w1.heap.size, 0, none⟩ = some (.string s) ∧ w'.cell? ⟨w1.heap.size, 1, none⟩ = some (.pointer (some ⟨b, 0, none⟩))) ((show C2 w1.heap.size s b _; (repeat (first | (with_reducible refine C2.drew ?_) | (with_reducible refine C2.set1 ?_ NP.out))); with_reducible first | exact KK.out | exact KK0.out)) (first | (go_at_call 101; (with_reducible refine (G0.out _ (show Ext W2 W2.drew from Ext.drewN' _ 1)).mono ?_); rintro e v0 ⟨rfl, hE⟩; have HX1 := Lib.hid (((show Ext W2 W2.drew from Ext.drewN' _ 1)).trans' hE); have KK := Lib.hid (KK0.out.ext HX1.out); clear hE) | (go_at_call 102; (with_reducible refine (G1.out _ HX1.out).mono ?_); rintro e v1 ⟨rfl, hE⟩; have HX2 := Lib.hid ((HX1.out).trans' hE); clear KK; have KK := Lib.hid (KK0.out.ext HX2.out); clear hE) | (go_at_call 103; (with_reducible refine (G2.out _ HX2.out).mono ?_); rintro e v2 ⟨rfl, hE⟩; have HX3 := Lib.hid ((HX2.out).trans' hE); clear KK; have KK := Lib.hid (KK0.out.ext HX3.out); clear hE) | (go_at_call 104; (with_reducible refine (G3.out _ HX3.out).mono ?_); rintro e v3 ⟨rfl, hE⟩; have HX4 := Lib.hid ((HX3.out).trans' hE); clear KK; have KK := Lib.hid (KK0.out.ext HX4.out); clear hE) | (go_at_call 105; (with_reducible refine (G4.out _ HX4.out).mono ?_); rintro e v4 ⟨rfl, hE⟩; have HX5 := Lib.hid ((HX4.out).trans' hE); clear KK; have KK := Lib.hid (KK0.out.ext HX5.out); have kz := Lib.hid (KR.out.ext HX5.out); have z0 : v4.cell? ⟨w.heap.size + 1, 0, none⟩ = some (.string ⟨#[]⟩) := (kz.out.cell 0).trans rfl; have y0 := kz.out.frozen 0; have z1 : v4.cell? ⟨w.heap.size + 1, 1, none⟩ = some (.bool false) := (kz.out.cell 1).trans rfl; have y1 := kz.out.frozen 1; have z2 : v4.cell? ⟨w.heap.size + 1, 2, none⟩ = some (.bool false) := (kz.out.cell 2).trans rfl; have y2 := kz.out.frozen 2; have z3 : v4.cell? ⟨w.heap.size + 1, 3, none⟩ = some (.bool false) := (kz.out.cell 3).trans rfl; have y3 := kz.out.frozen 3; have z4 : v4.cell? ⟨w.heap.size + 1, 4, none⟩ = some (.bool false) := (kz.out.cell 4).trans rfl; have y4 := kz.out.frozen 4; clear hE))
  all_goals go_wp2
  all_goals exact bodyPost_ret (v := .agg #[.string r0, .bool r1, .bool r2, .bool r3, .bool r4]) (by simp [results, Tryz.results48, go_sem, z0, z1, z2, z3, z4]) rfl ⟨rfl, Only.ext ((EW.out.trans' E2.out).trans' HX5.out) ((((((Only.refl _ _).set_ 0 _).set_ 1 _).set_ 2 _).set_ 3 _).set_ 4 _) (by omega)⟩
end Go.Proofs.YtfafiahefjimdaaGreatDoor

namespace Go.Proofs.YtfafiahefjimdaaGreatDoor
open Go Go.RowKit

theorem convOne (x : Int) (d : Nat) (hx : x = (d : Int)) (hd : d < 256) (W : World) : (convert 148 9 (.slice (some ⟨W.heap.size, 0, none⟩) 1 1)).run Tryz.prog (W.alloc (.cells #[.int .u8 x] 5)) = .ok (.string (strB [UInt8.ofNat d])) (W.alloc (.cells #[.int .u8 x] 5)) := by
  have hb := Blk.new W 5 [.int .u8 x]
  refine convBytes (w := W.alloc (.cells #[.int .u8 x] 5)) (l := [UInt8.ofNat d]) (c := 1) (fun j hj => ?_)
  obtain rfl : j = 0 := by simp at hj; omega
  refine ((hb.cell 0).trans ?_)
  subst hx
  simp [bv]
  omega
theorem convOld (x : Int) (d : Nat) (hx : x = (d : Int)) (hd : d < 256) (W W' : World) (hE : Ext (W.alloc (.cells #[.int .u8 x] 5)) W') : (convert 148 9 (.slice (some ⟨W.heap.size, 0, none⟩) 1 1)).run Tryz.prog W' = .ok (.string (strB [UInt8.ofNat d])) W' := by
  have hb := (Blk.new W 5 [.int .u8 x]).ext hE
  refine convBytes (w := W') (l := [UInt8.ofNat d]) (c := 1) (fun j hj => ?_)
  obtain rfl : j = 0 := by simp at hj; omega
  refine ((hb.cell 0).trans ?_)
  subst hx
  simp [bv]
  omega
theorem strB_append (a b : List UInt8) : strB a ++ strB b = strB (a ++ b) := by
  apply ByteArray.ext
  simp [strB]

set_option maxRecDepth 100000 in
set_option maxHeartbeats 1000000 in
theorem sDigits (n : Nat) : ∀ (w : World), n ≤ 9000000000000000000 → Calls Tryz.prog 108 #[.int .i64 (n : Int)] w (RetE (.string (strB (decL n))) w) := by
  induction n using Nat.strongRecOn with
  | _ n ih =>
    intro w hn
    have n0 : (n : Int) ≤ 9000000000000000000 := by omega
    rcases Nat.lt_or_ge n 10 with h | h
    · have hlt : (n : Int) < 10 := by omega
      have hcv := convOne (48 + (n : Int)) (48 + n) (by omega) (by omega)
      rw [decL_small h]
      obtain ⟨sb, hsb⟩ : ∃ sb, sb = strB [UInt8.ofNat (48 + n)] := ⟨_, rfl⟩
      rw [← hsb] at hcv ⊢
      clear ih hsb
      go_enter Tryz.func108, Tryz.ntmps108
      go_wp2
      go_ret
      exact ⟨rfl, Ext.alloc' _ _⟩
    · have hge : ¬ (n : Int) < 10 := by omega
      obtain ⟨q, hq⟩ : ∃ q, q = n / 10 := ⟨_, rfl⟩
      obtain ⟨r, hr⟩ : ∃ r, r = n % 10 := ⟨_, rfl⟩
      have e1 : (n : Int) / 10 = (q : Int) := by omega
      have e2 : (n : Int).tdiv 10 = (q : Int) := by rw [Int.tdiv_eq_ediv_of_nonneg (by omega)]; omega
      have e3 : (n : Int) % 10 = (r : Int) := by omega
      have e4 : (n : Int).tmod 10 = (r : Int) := by rw [Int.tmod_eq_emod_of_nonneg (by omega)]; omega
      have e5 : IntKind.i64.wrap (q : Int) = (q : Int) := IntWalk.i64_in _ (by omega)
      have e6 : IntKind.i64.wrap (r : Int) = (r : Int) := IntWalk.i64_in _ (by omega)
      have e7 : IntKind.i64.wrap (48 + (r : Int)) = 48 + (r : Int) := IntWalk.i64_in _ (by omega)
      have e8 : IntKind.u8.wrap (48 + (r : Int)) = 48 + (r : Int) := by simp only [IntKind.wrap_u8]; omega
      have hcv := convOne (48 + (r : Int)) (48 + r) (by omega) (by omega)
      have HCO := Lib.hid (convOld (48 + (r : Int)) (48 + r) (by omega) (by omega))
      have H := Lib.hid (fun W : World => ih q (by omega) W (by omega))
      have hsz : ¬ 9223372036854775807 < (strB (decL q)).size + (strB [UInt8.ofNat (48 + r)]).size := by
        have h1 : ndig q ≤ 20 := ndig_le_of (Nat.lt_of_lt_of_le (show q < 10 ^ 20 by omega) (Nat.le_refl _)) (by omega)
        rw [strB_size, strB_size, decL_length]
        simp; omega
      have HST := Lib.hid (show strB (decL q) ++ strB [UInt8.ofNat (48 + r)] = strB (decL n) by rw [strB_append, hq, hr, ← decL_step h])
      obtain ⟨sa, hsa⟩ : ∃ sa, sa = strB (decL q) := ⟨_, rfl⟩
      obtain ⟨sb, hsb⟩ : ∃ sb, sb = strB [UInt8.ofNat (48 + r)] := ⟨_, rfl⟩
      rw [← hsa] at H hsz HST
      rw [← hsb] at hcv HCO hsz HST
      have hcv2 : (convert 148 9 (.slice (some ⟨w.heap.size, 0, none⟩) 1 1)).run Tryz.prog (w.alloc (.cells #[.int .u8 (48 + (r : Int))] 5)).drew = .ok (.string sb) (w.alloc (.cells #[.int .u8 (48 + (r : Int))] 5)).drew := HCO.out w _ (Below.drew (Ext.refl _))
      clear ih hsa hsb hn h hq hr
      go_enter Tryz.func108, Tryz.ntmps108
      go_upto_region 5 with fail
      go_region_law (first | (go_simp; go_at_call 108; refine (H.out _).mono ?_; rintro e w1 ⟨rfl, hE⟩; have HE := Lib.hid hE; (try have hco : (convert 148 9 (.slice (some ⟨w.heap.size, 0, none⟩) 1 1)).run Tryz.prog w1 = .ok (.string sb) w1 := HCO.out w w1 (Ext.undrew hE)); clear hE))
      all_goals go_wp2
      all_goals go_ret
      all_goals first | exact ⟨rfl, Ext.undrew HE.out⟩ | exact ⟨by rw [← HST.out]; rfl, Ext.undrew HE.out⟩ | exact ⟨rfl, (Ext.alloc' _ _).trans' (Ext.undrew HE.out)⟩ | exact ⟨by rw [← HST.out]; rfl, (Ext.alloc' _ _).trans' (Ext.undrew HE.out)⟩ | exact ⟨rfl, (Ext.undrew HE.out).trans' (Ext.alloc' _ _)⟩ | exact ⟨by rw [← HST.out]; rfl, (Ext.undrew HE.out).trans' (Ext.alloc' _ _)⟩
end Go.Proofs.YtfafiahefjimdaaGreatDoor

namespace Go.Proofs.YtfafiahefjimdaaGreatDoor
open Go Go.RowKit

set_option maxRecDepth 100000 in
theorem sDigitsZ (z : Int) (w : World) (h1 : -1099511627776 ≤ z) (h2 : z ≤ 1099511627776) : Calls Tryz.prog 108 #[.int .i64 z] w (RetE (.string (strB (decZ z))) w) := by
  rcases Int.lt_or_le z 0 with h | h
  · have H := Lib.hid (sDigits z.natAbs w (by omega))
    have e : ((z.natAbs : Nat) : Int) = -z := by omega
    rw [e] at H
    have hsz : ¬ 9223372036854775807 < (⟨#[45]⟩ : ByteArray).size + (strB (decL z.natAbs)).size := by
      have := ndig_le_of (n := z.natAbs) (k := 20) (by omega) (by omega)
      rw [strB_size, decL_length]
      have : (⟨#[45]⟩ : ByteArray).size = 1 := rfl
      omega
    have HD := Lib.hid (show (⟨#[45]⟩ : ByteArray) ++ strB (decL z.natAbs) = strB (decZ z) by
      unfold decZ
      rw [if_pos h]
      exact strB_append [45] _)
    obtain ⟨sa, hsa⟩ : ∃ sa, sa = strB (decL z.natAbs) := ⟨_, rfl⟩
    rw [← hsa] at H hsz HD
    rw [← HD.out]
    clear e hsa HD
    go_enter Tryz.func108, Tryz.ntmps108
    go_wp2_with (go_at_call 108; (with_reducible refine H.out.mono ?_); rintro e w1 ⟨rfl, hE⟩; have HE := Lib.hid hE; clear hE)
    go_ret
    exact ⟨rfl, HE.out⟩
  · have := sDigits z.natAbs w (by omega)
    have e : ((z.natAbs : Nat) : Int) = z := by omega
    rw [e] at this
    have e2 : decZ z = decL z.natAbs := by unfold decZ; rw [if_neg (by omega)]
    rw [e2]; exact this

/-- A coin in bytes; the first k of a list, with commas between. -/
def coinL (x : ByteArray × Int) : List UInt8 := decZ x.2 ++ x.1.data.toList
def sumK (l : List (ByteArray × Int)) : Nat → List UInt8
  | 0 => []
  | k + 1 => (if k = 0 then sumK l k else sumK l k ++ [44]) ++ coinL (l.getD k (ByteArray.empty, 0))
theorem coin_strB (x : ByteArray × Int) : strB (decZ x.2) ++ x.1 = strB (coinL x) := by
  apply ByteArray.ext
  simp [strB, coinL]
theorem decZ_small {z : Int} (h1 : -1099511627776 ≤ z) (h2 : z ≤ 1099511627776) : (decZ z).length ≤ 41 := decZ_len (by unfold B64; omega)
theorem coinL_len {x : ByteArray × Int} (hs : x.1.size ≤ 200) (h1 : -1099511627776 ≤ x.2) (h2 : x.2 ≤ 1099511627776) : (coinL x).length ≤ 241 := by
  have := decZ_small h1 h2
  have e : x.1.data.toList.length = x.1.size := by rw [Array.length_toList]; rfl
  unfold coinL
  rw [List.length_append, e]
  omega
theorem sumK_len {l : List (ByteArray × Int)} (h : ∀ x ∈ l, x.1.size ≤ 200 ∧ -1099511627776 ≤ x.2 ∧ x.2 ≤ 1099511627776) (k : Nat) (hk : k ≤ l.length) : (sumK l k).length ≤ 242 * k := by
  induction k with
  | zero => simp [sumK]
  | succ k ih =>
    have h1 := ih (by omega)
    have hm := h _ (List.getElem_mem (show k < l.length by omega))
    have h2 := coinL_len hm.1 hm.2.1 hm.2.2
    have e : l.getD k (ByteArray.empty, 0) = l[k]'(by omega) := by simp [List.getD, List.getElem?_eq_getElem (show k < l.length by omega)]
    rw [sumK, e]
    split
    · rw [List.length_append]; omega
    · rw [List.length_append, List.length_append]; simp; omega

set_option maxRecDepth 100000 in
set_option maxHeartbeats 1000000 in
theorem sSumText (A : Option Addr) (n c : Nat) (l : List (ByteArray × Int)) (w : World) (hl : l.length = n) (hn : n ≤ 1000) (hb : ∀ x ∈ l, x.1.size ≤ 200 ∧ -1099511627776 ≤ x.2 ∧ x.2 ≤ 1099511627776) (h : PlainAt w A l) :
    Calls Tryz.prog 50 #[.slice A n c] w (RetE (.string (strB (sumK l n))) w) := by
  have HL := Lib.hid hl; have HP := Lib.hid h; have HB := Lib.hid hb
  clear hl h hb
  go_enter Tryz.func50, Tryz.ntmps50
  go_wp2
  go_loopw [3, 8] (fun s i wr => ∃ k : Nat, k ≤ n ∧ s = .string (strB (sumK l k)) ∧ i = .int .i64 k ∧ Ext w wr) (fun _ i _ => n - (intOf i).toNat)
  case atStart => exact ⟨0, Nat.zero_le _, rfl, rfl, Ext.refl _⟩
  case round =>
    obtain ⟨k, hk, rfl, rfl, hE⟩ := hrel
    have HE := Lib.hid hE
    clear hE
    by_cases hlt : k < n
    · have hkl : k < l.length := by rw [HL.out]; exact hlt
      obtain ⟨s, hs⟩ : ∃ s, s = l[k].1 := ⟨_, rfl⟩
      obtain ⟨z, hzz⟩ : ∃ z, z = l[k].2 := ⟨_, rfl⟩
      obtain ⟨g, o, hA, hc⟩ := HP.out (by intro e; have := congrArg List.length e; simp at this; rw [this] at hkl; simp at hkl)
      subst hA
      have hck := hc k (by simpa using hkl)
      have cs0 : wr.cell? ⟨g, o + k * 2, none⟩ = some (.string s) := HE.out.cell' (by rw [hck.1, hs]; simp [plain])
      have cs1 : wr.cell? ⟨g, o + k * 2 + 1, none⟩ = some (.int .i64 z) := HE.out.cell' (by rw [hck.2, hzz]; simp [plain])
      have hm := HB.out _ (List.getElem_mem hkl)
      rw [← hs, ← hzz] at hm
      have HD := Lib.hid (fun W : World => sDigitsZ z W hm.2.1 hm.2.2)
      have hlen := sumK_len HB.out k (by omega)
      have e : l.getD k (ByteArray.empty, 0) = (s, z) := by rw [hs, hzz]; simp [List.getD, List.getElem?_eq_getElem hkl]
      have hsk : sumK l (k + 1) = (if k = 0 then sumK l k else sumK l k ++ [44]) ++ coinL (s, z) := by rw [sumK, e]
      have hz1 := decZ_small hm.2.1 hm.2.2
      have q1 : ¬ 9223372036854775807 < (strB (decZ z)).size + s.size := by rw [strB_size]; omega
      have hcl := coinL_len (x := (s, z)) hm.1 hm.2.1 hm.2.2
      have HT := Lib.hid (coin_strB (s, z))
      obtain ⟨tz, htz⟩ : ∃ tz, tz = strB (decZ z) := ⟨_, rfl⟩
      obtain ⟨tc, htc⟩ : ∃ tc, tc = tz ++ s := ⟨_, rfl⟩
      rw [← htz] at HD q1
      have htc2 : tc = strB (coinL (s, z)) := by rw [htc, htz]; exact HT.out
      have q2 : tc.size ≤ 241 := by rw [htc2, strB_size]; exact hcl
      obtain ⟨so, hso⟩ : ∃ so, so = strB (sumK l k) := ⟨_, rfl⟩
      have q3 : so.size ≤ 242 * k := by rw [hso, strB_size]; exact hlen
      rw [← hso]
      have HF0 := Lib.hid (show k = 0 → so ++ tc = strB (sumK l (k + 1)) by intro h0; rw [hsk, if_pos h0, hso, htc2, strB_append])
      have HF1 := Lib.hid (show k ≠ 0 → so ++ (⟨#[44]⟩ : ByteArray) ++ tc = strB (sumK l (k + 1)) by
        intro h0
        rw [hsk, if_neg h0, hso, htc2, show (⟨#[44]⟩ : ByteArray) = strB [44] from rfl, strB_append, strB_append])
      have r1 : ¬ 9223372036854775807 < so.size + tc.size := by omega
      have e44 : (⟨#[44]⟩ : ByteArray).size = 1 := rfl
      have r2 : ¬ 9223372036854775807 < so.size + (⟨#[44]⟩ : ByteArray).size := by omega
      obtain ⟨sc, hsc⟩ : ∃ sc, sc = so ++ (⟨#[44]⟩ : ByteArray) := ⟨_, rfl⟩
      have r3 : ¬ 9223372036854775807 < sc.size + tc.size := by
        have : sc.size = so.size + 1 := by rw [hsc, ByteArray.size_append, e44]
        omega
      rw [← hsc] at HF1
      have htc' := htc.symm
      have hsc' := hsc.symm
      have i1 : (k : Int) < (n : Int) := by omega
      have i2 : (n : Int) ≤ 1000 := by omega
      have HK := Lib.hid (show k < n from hlt)
      clear hck hc hm hlen e hsk hz1 hcl htz htc htc2 hso hsc q2 q3 hk e44 hs hzz hkl hlt HB
      obtain ⟨W, hW⟩ : ∃ W, W = (wr.alloc (.cells #[.string s, .int .i64 z] 86)) := ⟨_, rfl⟩
      have HKB := Lib.hid (show Blk W wr.heap.size 86 [.string s, .int .i64 z] by rw [hW]; exact blk_new0 wr _ [.string s, .int .i64 z])
      have EW := Lib.hid (show Ext w W by rw [hW]; exact HE.out.trans' (ext1 _ _))
      have c0 : W.cell? ⟨wr.heap.size, 0, none⟩ = some (.string s) := (HKB.out.cell 0).trans rfl
      have c1 : W.cell? ⟨wr.heap.size, 1, none⟩ = some (.int .i64 z) := (HKB.out.cell 1).trans rfl
      have HWW := Lib.hid hW; clear hW
      rcases Nat.eq_zero_or_pos k with h0 | h0
      · have hk0 : ¬ (0 : Int) < (k : Int) := by omega
        have HK0 := Lib.hid h0; clear h0
        go_upto_region 7 with fail
        rw [← HWW.out]
        go_region_held3 (fun w' => w'.cell? ⟨wr.heap.size, 0, none⟩ = some (.string s) ∧ w'.cell? ⟨wr.heap.size, 1, none⟩ = some (.int .i64 z)) (first | exact ⟨c0, c1⟩ | exact ⟨d0, d1⟩ | go_keep) (first | (go_at_call 108; refine (HD.out _).mono ?_; rintro e w1 ⟨rfl, hE⟩; have HE1 := Lib.hid (Ext.undrew hE); have d0 : w1.cell? ⟨wr.heap.size, 0, none⟩ = some (.string s) := ((HKB.out.ext HE1.out).cell 0).trans rfl; have d1 : w1.cell? ⟨wr.heap.size, 1, none⟩ = some (.int .i64 z) := ((HKB.out.ext HE1.out).cell 1).trans rfl; clear hE))
        all_goals go_wp2
        all_goals go_roundw
        case rel => exact ⟨k + 1, HK.out, by rw [HF0.out HK0.out], by go_num, EW.out.trans' HE1.out⟩
        case measure => first | (simp; done) | (simp [intOf]; omega)
      · have hk0 : (0 : Int) < (k : Int) := by omega
        have HK0 := Lib.hid h0; clear h0
        go_upto_region 7 with fail
        rw [← HWW.out]
        go_region_held3 (fun w' => w'.cell? ⟨wr.heap.size, 0, none⟩ = some (.string s) ∧ w'.cell? ⟨wr.heap.size, 1, none⟩ = some (.int .i64 z)) (first | exact ⟨c0, c1⟩ | exact ⟨d0, d1⟩ | go_keep) (first | (go_at_call 108; refine (HD.out _).mono ?_; rintro e w1 ⟨rfl, hE⟩; have HE1 := Lib.hid (Ext.undrew hE); have d0 : w1.cell? ⟨wr.heap.size, 0, none⟩ = some (.string s) := ((HKB.out.ext HE1.out).cell 0).trans rfl; have d1 : w1.cell? ⟨wr.heap.size, 1, none⟩ = some (.int .i64 z) := ((HKB.out.ext HE1.out).cell 1).trans rfl; clear hE))
        all_goals go_wp2
        all_goals go_roundw
        case rel => exact ⟨k + 1, HK.out, by rw [HF1.out (by have := HK0.out; omega)], by go_num, EW.out.trans' HE1.out⟩
        case measure => first | (simp; done) | (simp [intOf]; omega)
    · obtain rfl : k = n := by omega
      go_wp2
      go_ret
      exact ⟨rfl, HE.out⟩
end Go.Proofs.YtfafiahefjimdaaGreatDoor
