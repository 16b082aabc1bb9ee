/-
  Contracts of big.Int's Set, Neg, Exp on a new receiver, of Cmp for all numbers.
  big.Int's Add, Sub, Mul by values: on a new receiver; in place.
  Contract of big.Int's Cmp for all numbers.
  Decimals: new numbers, the powers of ten, the limits.
-/
import Derived.Test.YtcoffndnfaemoaaGreatDoorGN
import Derived.Test.YtcoffndnfaemoaaGreatDoorGA
import Derived.Test.YtcoffndnfaemoaaGreatDoorIntA
import Derived.Test.YtcoffndnfaemoaaGreatDoorIntS
import Derived.Test.YtcoffndnfaemoaaGreatDoorIntM
import Derived.Test.YtcoffndnfaemoaaGreatDoorGB
namespace Go.Proofs.YtcoffndnfaemoaaGreatDoor
open Go Go.RowKit

/-- A new receiver handed back with the value z, its words in new room. -/
def RetNB (b : Nat) (z : Int) (w : World) (e : Ending) (w' : World) : Prop :=
  e = .returned (.pointer (some ⟨b, 0, none⟩)) ∧ ∃ g c, BigV w' b g c z ∧ w.heap.size ≤ g ∧ Only b w w'
theorem RetBV.new {b : Nat} {z : Int} {w : World} {e : Ending} {w' : World} (h : RetBV b w.heap.size z w e w') : RetNB b z w e w' := by
  obtain ⟨rfl, g, c, hv, hg, ho⟩ := h
  exact ⟨rfl, g, c, hv, by omega, ⟨ho.os, ho.tape, ho.output, ho.size, fun i hi hne => ho.block i hi (fun e => hne (by rw [e])) (by omega)⟩⟩
theorem big_len {ws : List Nat} {neg : Bool} {k : Nat} (hN : Norm ws) (h : (bigVal neg ws).natAbs < B64 ^ k) : ws.length ≤ k := by
  rw [natAbs_bigVal] at h
  rcases Nat.lt_or_ge k ws.length with hl | hl
  · have h1 := natOf_ge hN (ws.length - 1) (by omega)
    have h2 : B64 ^ k ≤ B64 ^ (ws.length - 1) := Nat.pow_le_pow_right B64_pos (by omega)
    omega
  · exact hl

set_option maxRecDepth 100000 in
set_option maxHeartbeats 1000000 in
theorem vSet (b x : Nat) (z : Int) (w : World) (hv : BigK w x z) (hne : x ≠ b) (hb : Blk w b 126 [.bool false, .slice none 0 0]) (hz : z.natAbs < B64 ^ 30) :
    Calls Tryz.prog 181 #[.pointer (some ⟨b, 0, none⟩), .pointer (some ⟨x, 0, none⟩)] w (RetNB b z w) := by
  obtain ⟨gx, c, hgx, A, ws, neg, hx, hnv, hN, h0, rfl⟩ := hv
  have hlen := big_len hN hz
  have c0 : w.cell? ⟨x, 0, none⟩ = some (.bool neg) := (hx.cell 0).trans rfl
  have c1 : w.cell? ⟨x, 1, none⟩ = some (.slice A ws.length c) := (hx.cell 1).trans rfl
  have z0 : w.cell? ⟨b, 0, none⟩ = some (.bool false) := (hb.cell 0).trans rfl
  have z1 : w.cell? ⟨b, 1, none⟩ = some (.slice none 0 0) := (hb.cell 1).trans rfl
  have hpn := ptr_ne w hb hx (Ne.symm hne)
  have hxs := hx.lt; have hbs := hb.lt
  have hgb : w.heap.size ≠ b := by omega
  have HW := Lib.hid (opd_new (cz := 0) hnv.words hnv.le); have HB := Lib.hid hb; have HX := Lib.hid hx; have H0 := Lib.hid h0; have HN0 := Lib.hid hN
  clear hnv hb hx h0 hz
  go_enter Tryz.func181, Tryz.ntmps181
  go_wp2
  go_region_law (first | (go_simp; go_at_call 168; refine (gSet none 0 0 w.heap.size [] A c ws ws.length _ (NatV.nil _ _) (by exact HW.out) rfl (by omega) hN).mono ?_; rintro e w1 ⟨A', c', g', ws', rfl, hn⟩; have hO : Only w.heap.size w w1 := ⟨hn.2.2.2.1.os, hn.2.2.2.1.tape, hn.2.2.2.1.output, hn.2.2.2.1.size, hn.2.2.2.1.block⟩; have z1' := hO.cell z1 (Ne.symm hgb); have c1' := hO.cell c1 (Nat.ne_of_lt hxs); have c0' := hO.cell c0 (Nat.ne_of_lt hxs); have z0' := hO.cell z0 (Ne.symm hgb); have fz1 := (hO.block' HB.out (Ne.symm hgb)).frozen 1; have fz0 := (hO.block' HB.out (Ne.symm hgb)).frozen 0; have HN := Lib.hid hn; clear hn; have HO := Lib.hid hO; clear hO))
  all_goals go_wp2
  all_goals go_ret
  all_goals
    have ht : neg = (decide (0 < ws'.length) && neg) := by
      rcases Nat.eq_zero_or_pos ws'.length with e | e
      · rw [H0.out (nil_congr HN0.out HN.out.2.1 HN.out.2.2.1 (List.eq_nil_of_length_eq_zero e))]; simp
      · simp [e]
    exact RetBV.new ⟨rfl, endV HB.out hgb HO.out HN.out.1 HN.out.2.2.2.2 HN.out.2.1 rfl (bigVal_congr HN.out.2.2.1) _ ht⟩

set_option maxRecDepth 100000 in
theorem vNeg (b x : Nat) (z : Int) (w : World) (hv : BigK w x z) (hne : x ≠ b) (hb : Blk w b 126 [.bool false, .slice none 0 0]) (hz : z.natAbs < B64 ^ 30) :
    Calls Tryz.prog 199 #[.pointer (some ⟨b, 0, none⟩), .pointer (some ⟨x, 0, none⟩)] w (RetNB b (-z) w) := by
  have H := Lib.hid (vSet b x z w hv hne hb hz)
  clear hv hne hb hz
  go_enter Tryz.func199, Tryz.ntmps199
  go_wp2_with (fail)
  go_at_call 181
  refine H.out.mono ?_
  rintro e w1 ⟨rfl, g, c, hB, hg, hO⟩
  obtain ⟨hgb, A, ws, neg, hk, hw, hN, h0, hz⟩ := hB
  have c0 : w1.cell? ⟨b, 0, none⟩ = some (.bool neg) := (hk.cell 0).trans rfl
  have c1 : w1.cell? ⟨b, 1, none⟩ = some (.slice A ws.length c) := (hk.cell 1).trans rfl
  have f0 := hk.frozen 0
  have HF := Lib.hid (show ∀ s : Bool, (ws = [] → s = false) → bigVal s ws = -z → RetNB b (-z) w (.returned (.pointer (some ⟨b, 0, none⟩))) (w1.setCell ⟨b, 0, none⟩ (.bool s)) from fun s hs hv =>
    ⟨rfl, g, c, ⟨hgb, A, ws, s, hk.set_ 0 _, hw.only ((Only.refl b w1).set_ 0 _) (fun _ => hgb), hN, hs, hv.symm⟩, hg, hO.set_ 0 _⟩)
  have HZ := Lib.hid hz
  clear hk hw hN hO hz
  obtain ⟨k, hk⟩ : ∃ k, ws.length = k := ⟨_, rfl⟩
  rw [hk] at c1
  rcases Nat.eq_zero_or_pos k with e0 | e0
  · subst e0
    have he : ws = [] := List.eq_nil_of_length_eq_zero hk
    have H1 := Lib.hid (HF.out false (fun _ => rfl) (by rw [HZ.out, he]; cases neg <;> simp [bigVal, natOf]))
    clear HF hk he h0
    go_wp2
    go_ret
    exact H1.out
  · have hd : (0 : Int) < (k : Int) := by omega
    have hne : ws ≠ [] := by intro e; subst e; simp at hk; omega
    have H1 := Lib.hid (HF.out (!neg) (fun e => absurd e hne) (by rw [HZ.out]; unfold bigVal; cases neg <;> simp))
    clear HF hk hne h0
    cases neg
    all_goals
      go_wp2
      go_ret
      exact H1.out

set_option maxRecDepth 100000 in
set_option maxHeartbeats 400000 in
/-- Exp of small numbers, without a modulus. -/
theorem vExp (b x x' a e k r0 : Nat) (w : World) (hb : Blk w b 126 [.bool false, .slice none 0 0]) (hx : BigK w x a) (hy : BigK w x' e) (_hxb : x ≠ b) (_hyb : x' ≠ b) (hab : a < B64) (heb : e < B64) (ha : 1 < a) (he1 : 1 < e) (he : e = 2 ^ k + r0) (hr : r0 < 2 ^ k) (hk1 : 1 ≤ k) (hk2 : k ≤ 62) (hbl : Lib.bitLen e = k + 1) (hpb : a ^ e < B64 ^ 11) (hT : Thr w) :
    Calls Tryz.prog 263 #[.pointer (some ⟨b, 0, none⟩), .pointer (some ⟨x, 0, none⟩), .pointer (some ⟨x', 0, none⟩), .pointer none, .bool false] w (RetNB b ((a ^ e : Nat) : Int) w) := by
  have one : ∀ {y : Nat} {v : Nat}, BigK w y v → v < B64 → 1 < v → ∃ A c, w.cell? ⟨y, 0, none⟩ = some (.bool false) ∧ w.cell? ⟨y, 1, none⟩ = some (.slice A 1 c) ∧ Words w A [v] ∧ 1 ≤ c := by
    intro y v hv hvb h1
    obtain ⟨g, c, _, A, ws, neg, hx, hnv, hN, h0, hz⟩ := hv
    have hl := big_len (k := 1) (neg := neg) hN (by rw [← hz]; simpa using hvb)
    have hn : natOf ws = v := by have := congrArg Int.natAbs hz; rw [natAbs_bigVal] at this; simpa using this.symm
    rcases Nat.eq_zero_or_pos ws.length with e | e
    · rw [List.eq_nil_of_length_eq_zero e] at hn; simp [natOf] at hn; omega
    · obtain ⟨u, rfl⟩ := List.length_eq_one_iff.1 (by omega : ws.length = 1)
      rw [natOf_one] at hn; subst hn
      have hneg : neg = false := by
        cases neg
        · rfl
        · simp [bigVal, natOf] at hz; omega
      subst hneg
      exact ⟨A, c, (hx.cell 0).trans rfl, (hx.cell 1).trans rfl, hnv.words, hnv.le⟩
  obtain ⟨AX, cx, a0, a1, hxw, hcx⟩ := one hx hab ha
  obtain ⟨AY, cy, b0, b1, hyw, hcy⟩ := one hy heb he1
  clear one
  have z0 : w.cell? ⟨b, 0, none⟩ = some (.bool false) := (hb.cell 0).trans rfl
  have z1 : w.cell? ⟨b, 1, none⟩ = some (.slice none 0 0) := (hb.cell 1).trans rfl
  have hxs := hx.lt; have hys := hy.lt; have hbs := hb.lt
  have hgb : w.heap.size ≠ b := by omega
  have HE := Lib.hid (gExp a e k r0 AX AY cx cy w hxw hcx hyw hcy ha he1 he hr hk1 hk2 hbl hpb hT)
  have HB := Lib.hid hb
  obtain ⟨v, hv⟩ : ∃ v, v = a ^ e := ⟨_, rfl⟩
  rw [← hv] at HE ⊢
  have HV0 := Lib.hid (show 0 < v by rw [hv]; exact Nat.pow_pos (by omega))
  clear hb hx hy he hr hbl hpb hT hxw hyw hv
  go_enter Tryz.func263, Tryz.ntmps263
  go_wp2_with (fail)
  go_at_call 294
  refine HE.out.mono ?_
  rintro e w1 ⟨A', c', g', ws, rfl, hw, hN, hnv, hE, hg'⟩
  have z1' := hE.cell' z1; have a0' := hE.cell' a0; have z0' := hE.cell' z0
  have fz1 := (HB.out.ext hE).frozen 1; have fz0 := (HB.out.ext hE).frozen 0
  have hws : 0 < ws.length := by
    rcases Nat.eq_zero_or_pos ws.length with k | k
    · rw [List.eq_nil_of_length_eq_zero k] at hnv; have := HV0.out; simp [natOf] at hnv; omega
    · exact k
  have HF := Lib.hid (endV HB.out hgb (Only.of_ext hE) hw (Or.inr hg') hN rfl (show ((v : Nat) : Int) = bigVal false ws by rw [← hnv]; rfl) false (by simp))
  obtain ⟨l, hl⟩ : ∃ l, ws.length = l := ⟨_, rfl⟩
  rw [hl] at HF hws ⊢
  have hd : (0 : Int) < (l : Int) := by omega
  clear hw hN hnv hE hg' hl
  go_wp2
  go_ret
  exact RetBV.new ⟨rfl, HF.out⟩
set_option maxRecDepth 100000 in
theorem vExpo (b x x' a e k r0 : Nat) (w : World) (hb : Blk w b 126 [.bool false, .slice none 0 0]) (hx : BigK w x a) (hy : BigK w x' e) (hxb : x ≠ b) (hyb : x' ≠ b) (hab : a < B64) (heb : e < B64) (ha : 1 < a) (he1 : 1 < e) (he : e = 2 ^ k + r0) (hr : r0 < 2 ^ k) (hk1 : 1 ≤ k) (hk2 : k ≤ 62) (hbl : Lib.bitLen e = k + 1) (hpb : a ^ e < B64 ^ 11) (hT : Thr w) :
    Calls Tryz.prog 225 #[.pointer (some ⟨b, 0, none⟩), .pointer (some ⟨x, 0, none⟩), .pointer (some ⟨x', 0, none⟩), .pointer none] w (RetNB b ((a ^ e : Nat) : Int) w) := by
  have H := Lib.hid (vExp b x x' a e k r0 w hb hx hy hxb hyb hab heb ha he1 he hr hk1 hk2 hbl hpb hT)
  generalize ((a ^ e : Nat) : Int) = v at H ⊢
  clear hb hx hy hxb hyb hab heb ha he1 he hr hk1 hk2 hbl hpb hT
  go_enter Tryz.func225, Tryz.ntmps225
  go_wp2_with (go_at_call 263; refine H.out.mono ?_; rintro e w' ⟨rfl, hr⟩; have HR := Lib.hid hr; clear hr)
  go_ret
  exact ⟨rfl, HR.out⟩
set_option maxRecDepth 100000 in
theorem gExp0 (B D : Option Addr) (m cb cd : Nat) (w : World) :
    Calls Tryz.prog 294 #[.slice none 0 0, .pointer none, .slice B m cb, .slice D 0 cd, .slice none 0 0, .bool false] w (RetNF 1 w) := by
  have HA1 := Lib.hid (gAliasNil 0 B m cb w)
  go_enter Tryz.func294, Tryz.ntmps294
  go_wp2_with (fail)
  go_at_call 209
  refine HA1.out.mono ?_
  rintro e w1 ⟨rfl, hs1⟩
  have HA2 := Lib.hid (gAliasNil 0 D 0 cd w1)
  go_wp2_with (fail)
  go_at_call 209
  refine HA2.out.mono ?_
  rintro e w2 ⟨rfl, hs2⟩
  have HS := Lib.hid (still_trans hs1 hs2)
  clear hs1 hs2
  have HW := Lib.hid (gSetWord none 0 0 w2.heap.size [] 1 w2 (NatV.nil _ _) (by unfold B64; omega))
  go_wp2_with (fail)
  go_at_call 231
  refine HW.out.mono ?_
  rintro e w3 ⟨A', c', g', ws', rfl, hv, hN, hn, hO, hg⟩
  have HR := Lib.hid (show RetNF 1 w (.returned (.slice A' ws'.length c')) w3 from ⟨A', c', g', ws', rfl, hv, hN, hn, by
    have hE : Ext w2 w3 := Only.ext (Ext.refl _) hO (Nat.le_refl _)
    obtain ⟨j, rfl⟩ := HS.out
    exact hE.undrewN, by have := still_size HS.out; rcases hg with h | h <;> omega⟩)
  clear hv hN hn hO hg
  go_wp2
  go_ret
  exact HR.out
set_option maxRecDepth 100000 in
theorem vExp0In (b x x' : Nat) (a : Nat) (w : World) (hb : Blk w b 126 [.bool false, .slice none 0 0]) (hx : BigK w x a) (hy : BigK w x' 0) (_hxb : x ≠ b) (_hyb : x' ≠ b) :
    Calls Tryz.prog 263 #[.pointer (some ⟨b, 0, none⟩), .pointer (some ⟨x, 0, none⟩), .pointer (some ⟨x', 0, none⟩), .pointer none, .bool false] w (RetNB b 1 w) := by
  obtain ⟨gx, cx, _, AX, xs, nx, hxk, hxv, hxN, hx0, hxz⟩ := hx
  obtain ⟨gy, cy, _, AY, ys, ny, hyk, hyv, hyN, hy0, hyz⟩ := hy
  have hys : ys = [] := (nil_iff hyN).1 (by have := congrArg Int.natAbs hyz; rw [natAbs_bigVal] at this; simpa using this.symm)
  subst hys
  have hny := hy0 rfl
  subst hny
  have hnx : nx = false := by
    cases nx
    · rfl
    · exfalso
      have h1 := natOf_pos hxN (fun h => by have e := hx0 h; cases e)
      simp [bigVal] at hxz; omega
  subst hnx
  have z0 : w.cell? ⟨b, 0, none⟩ = some (.bool false) := (hb.cell 0).trans rfl
  have z1 : w.cell? ⟨b, 1, none⟩ = some (.slice none 0 0) := (hb.cell 1).trans rfl
  have a0 : w.cell? ⟨x, 0, none⟩ = some (.bool false) := (hxk.cell 0).trans rfl
  have a1 : w.cell? ⟨x, 1, none⟩ = some (.slice AX xs.length cx) := (hxk.cell 1).trans rfl
  have b0 : w.cell? ⟨x', 0, none⟩ = some (.bool false) := (hyk.cell 0).trans rfl
  have b1 : w.cell? ⟨x', 1, none⟩ = some (.slice AY 0 cy) := (hyk.cell 1).trans rfl
  have hbs := hb.lt
  have hgb : w.heap.size ≠ b := by omega
  have HE := Lib.hid (gExp0 AX AY xs.length cx cy w)
  have HB := Lib.hid hb
  clear hb hxk hxv hxN hx0 hxz hyk hyv hyN hy0 hyz
  go_enter Tryz.func263, Tryz.ntmps263
  go_wp2_with (fail)
  go_at_call 294
  refine HE.out.mono ?_
  rintro e w1 ⟨A', c', g', ws, rfl, hw, hN, hnv, hE, hg'⟩
  have z1' := hE.cell' z1; have a0' := hE.cell' a0; have z0' := hE.cell' z0
  have fz1 := (HB.out.ext hE).frozen 1; have fz0 := (HB.out.ext hE).frozen 0
  have hws : 0 < ws.length := by
    rcases Nat.eq_zero_or_pos ws.length with k | k
    · rw [List.eq_nil_of_length_eq_zero k] at hnv; simp [natOf] at hnv
    · exact k
  have HF := Lib.hid (endV HB.out hgb (Only.of_ext hE) hw (Or.inr hg') hN rfl (show (1 : Int) = bigVal false ws by unfold bigVal; rw [hnv]; rfl) false (by simp))
  obtain ⟨l, hl⟩ : ∃ l, ws.length = l := ⟨_, rfl⟩
  rw [hl] at HF hws ⊢
  have hd : (0 : Int) < (l : Int) := by omega
  clear hw hN hnv hE hg' hl
  go_wp2
  go_ret
  exact RetBV.new ⟨rfl, HF.out⟩
set_option maxRecDepth 100000 in
/-- Exp to the power of 0 is 1. -/
theorem vExp0 (b x x' : Nat) (a : Nat) (w : World) (hb : Blk w b 126 [.bool false, .slice none 0 0]) (hx : BigK w x a) (hy : BigK w x' 0) (hxb : x ≠ b) (hyb : x' ≠ b) :
    Calls Tryz.prog 225 #[.pointer (some ⟨b, 0, none⟩), .pointer (some ⟨x, 0, none⟩), .pointer (some ⟨x', 0, none⟩), .pointer none] w (RetNB b 1 w) := by
  have H := Lib.hid (vExp0In b x x' a w hb hx hy hxb hyb)
  clear hb hx hy hxb hyb
  go_enter Tryz.func225, Tryz.ntmps225
  go_wp2_with (go_at_call 263; refine H.out.mono ?_; rintro e w' ⟨rfl, hr⟩; have HR := Lib.hid hr; clear hr)
  go_ret
  exact ⟨rfl, HR.out⟩
end Go.Proofs.YtcoffndnfaemoaaGreatDoor

namespace Go.Proofs.YtcoffndnfaemoaaGreatDoor
open Go Go.RowKit

/-- Numbers of at most 30 words. -/
abbrev Small (z : Int) : Prop := z.natAbs < B64 ^ 30
theorem zero_of {A : Option Addr} {w : World} {c g : Nat} {ws : List Nat} (h : NatV w A c g ws) (hA : A = none) : c = 0 ∧ ws = [] := by
  rcases h with ⟨_, h1, h2⟩ | ⟨h1, _⟩
  · exact ⟨h1, h2⟩
  · rw [hA] at h1; cases h1

/-- Two operands and a new receiver. -/
theorem in2_new {w : World} {b x x' : Nat} {y z : Int} (hb : Blk w b 126 [.bool false, .slice none 0 0]) (hx : BigK w x y) (hy : BigK w x' z) (ky : Small y) (kz : Small z) :
    ∃ AX AY xs ys cx cy nx ny, In2 w b x x' w.heap.size 0 0 false none AX AY [] xs ys cx cy nx ny ∧ y = bigVal nx xs ∧ z = bigVal ny ys ∧ (xs.length ≤ 30 ∧ ys.length ≤ 30) ∧ (cx ≤ 1000000 ∧ cy ≤ 1000000) := by
  obtain ⟨gx, cx, _, AX, xs, nx, hxk, hxv, hxN, hx0, rfl⟩ := hx
  obtain ⟨gy, cy, _, AY, ys, ny, hyk, hyv, hyN, hy0, rfl⟩ := hy
  have l1 := big_len hxN ky
  have l2 := big_len hyN kz
  have h1 := hb.lt; have h2 := hxk.lt; have h3 := hyk.lt
  exact ⟨AX, AY, xs, ys, cx, cy, nx, ny, ⟨hb, NatV.nil _ _, by omega, opd_new hxv.words hxv.le, opd_new hyv.words hyv.le, (hxk.cell 0).trans rfl, (hxk.cell 1).trans rfl, (hyk.cell 0).trans rfl, (hyk.cell 1).trans rfl, hxN, hyN, by omega, by omega, by omega, by omega⟩, rfl, rfl, ⟨l1, l2⟩, hxv.cap_le, hyv.cap_le⟩
theorem nAdd (b x x' : Nat) (y z : Int) (w : World) (hb : Blk w b 126 [.bool false, .slice none 0 0]) (hx : BigK w x y) (hy : BigK w x' z) (ky : Small y) (kz : Small z) :
    Calls Tryz.prog 88 #[.pointer (some ⟨b, 0, none⟩), .pointer (some ⟨x, 0, none⟩), .pointer (some ⟨x', 0, none⟩)] w (RetNB b (y + z) w) := by
  obtain ⟨AX, AY, xs, ys, cx, cy, nx, ny, H, rfl, rfl, _⟩ := in2_new hb hx hy ky kz
  exact (vAdd H).mono fun _ _ h => h.new
theorem nSub (b x x' : Nat) (y z : Int) (w : World) (hb : Blk w b 126 [.bool false, .slice none 0 0]) (hx : BigK w x y) (hy : BigK w x' z) (ky : Small y) (kz : Small z) :
    Calls Tryz.prog 255 #[.pointer (some ⟨b, 0, none⟩), .pointer (some ⟨x, 0, none⟩), .pointer (some ⟨x', 0, none⟩)] w (RetNB b (y - z) w) := by
  obtain ⟨AX, AY, xs, ys, cx, cy, nx, ny, H, rfl, rfl, _⟩ := in2_new hb hx hy ky kz
  exact (vSub H).mono fun _ _ h => h.new
theorem ptr_diff {w : World} {x x' : Nat} {y z : Int} (hx : BigK w x y) (hy : BigK w x' z) (hne : x ≠ x') : ∀ W, Still w W → (binOp .eql 82 (.pointer (some ⟨x, 0, none⟩)) (.pointer (some ⟨x', 0, none⟩))).run Tryz.prog W = .ok (.bool false) W := by
  obtain ⟨gx, cx, _, AX, xs, nx, hxk, _⟩ := hx
  obtain ⟨gy, cy, _, AY, ys, ny, hyk, _⟩ := hy
  rintro W ⟨k, rfl⟩
  exact ptr_eq_other _ (hxk.drewN k) (hyk.drewN k) hne
theorem nMul (b x x' : Nat) (y z : Int) (w : World) (hb : Blk w b 126 [.bool false, .slice none 0 0]) (hx : BigK w x y) (hy : BigK w x' z) (ky : Small y) (kz : Small z) (hne : x ≠ x') (hT : Thr w) :
    Calls Tryz.prog 85 #[.pointer (some ⟨b, 0, none⟩), .pointer (some ⟨x, 0, none⟩), .pointer (some ⟨x', 0, none⟩)] w (RetNB b (y * z) w) := by
  have hq := ptr_diff hx hy hne
  obtain ⟨AX, AY, xs, ys, cx, cy, nx, ny, H, rfl, rfl, hl, hc⟩ := in2_new hb hx hy ky kz
  exact (vMul H hq (by omega) (by omega) hc.1 hc.2 hT).mono fun _ _ h => h.new

/-- In place: the receiver is the first operand. -/
def RetIP (b g : Nat) (z : Int) (w : World) (e : Ending) (w' : World) : Prop :=
  e = .returned (.pointer (some ⟨b, 0, none⟩)) ∧ ∃ g' c', BigV w' b g' c' z ∧ (g' = g ∨ w.heap.size ≤ g') ∧ Only2 b g w w'
theorem in2_place {w : World} {b x' g c : Nat} {y z : Int} (hx : BigV w b g c y) (hy : BigK w x' z) (ky : Small y) (kz : Small z) (hsep : ∀ gy cy, BigV w x' gy cy z → z = 0 ∨ gy ≠ g) (hxg : x' ≠ g) :
    ∃ gz n0 s0 A AX AY zs xs ys cx cy nx ny, In2 w b b x' gz c n0 s0 A AX AY zs xs ys cx cy nx ny ∧ y = bigVal nx xs ∧ z = bigVal ny ys ∧ (xs.length ≤ 30 ∧ ys.length ≤ 30) ∧ (cx ≤ 1000000 ∧ cy ≤ 1000000) ∧ ((gz = g) ∨ gz = w.heap.size) := by
  obtain ⟨hgb, A, xs, nx, hxk, hxv, hxN, hx0, rfl⟩ := hx
  obtain ⟨gy, cy, hy⟩ := hy
  have hs := hsep gy cy hy
  obtain ⟨_, AY, ys, ny, hyk, hyv, hyN, hy0, rfl⟩ := hy
  have l1 := big_len hxN ky
  have l2 := big_len hyN kz
  have h1 := hxk.lt; have h3 := hyk.lt
  have hye : bigVal ny ys = 0 → ys = [] := fun h => (nil_iff hyN).1 (by have := congrArg Int.natAbs h; rw [natAbs_bigVal] at this; simpa using this)
  obtain ⟨gz, hz, hr⟩ := room_now hxv
  have hgz : gz = g ∨ gz = w.heap.size := by
    rcases hr with ⟨_, h⟩ | ⟨_, h, _⟩
    · exact Or.inr h
    · exact Or.inl h
  have hyo : Opd w gz c AY cy ys := by
    refine ⟨hyv.lt64, hyv.le, fun hn => ?_⟩
    obtain ⟨hA, hb, hc⟩ := hyv.cell hn
    refine ⟨gy, 0, hA, hb, hc, Or.inl ?_⟩
    rcases hgz with rfl | rfl
    · rcases hs with h | h
      · exact absurd (hye h) hn
      · exact h
    · obtain ⟨cs, hb⟩ := hb
      have := hb.lt; omega
  have hxo : Opd w gz c A c xs := hz.opd gz c (Or.inr rfl)
  exact ⟨gz, xs.length, nx, A, A, AY, xs, xs, ys, c, cy, nx, ny, ⟨hxk, hz, by rcases hgz with rfl | rfl <;> omega, hxo, hyo, (hxk.cell 0).trans rfl, (hxk.cell 1).trans rfl, (hyk.cell 0).trans rfl, (hyk.cell 1).trans rfl, hxN, hyN, by omega, by omega, by rcases hgz with rfl | rfl <;> omega, by rcases hgz with rfl | rfl <;> omega⟩, rfl, rfl, ⟨l1, l2⟩, ⟨hxv.cap_le, hyv.cap_le⟩, hgz⟩
theorem RetBV.place {b g gz : Nat} {z : Int} {w : World} {e : Ending} {w' : World} (h : RetBV b gz z w e w') (hg : gz = g ∨ gz = w.heap.size) : RetIP b g z w e w' := by
  obtain ⟨rfl, g', c', hv, hw, ho⟩ := h
  refine ⟨rfl, g', c', hv, by rcases hg with rfl | rfl <;> omega, ho.os, ho.tape, ho.output, ho.size, fun i hi h1 h2 => ho.block i hi h1 ?_⟩
  rcases hg with rfl | rfl
  · exact h2
  · omega
theorem pAdd (b x' g c : Nat) (y z : Int) (w : World) (hx : BigV w b g c y) (hy : BigK w x' z) (ky : Small y) (kz : Small z) (hsep : ∀ gy cy, BigV w x' gy cy z → z = 0 ∨ gy ≠ g) (hxg : x' ≠ g) :
    Calls Tryz.prog 88 #[.pointer (some ⟨b, 0, none⟩), .pointer (some ⟨b, 0, none⟩), .pointer (some ⟨x', 0, none⟩)] w (RetIP b g (y + z) w) := by
  obtain ⟨gz, n0, s0, A, AX, AY, zs, xs, ys, cx, cy, nx, ny, H, rfl, rfl, _, _, hg⟩ := in2_place hx hy ky kz hsep hxg
  exact (vAdd H).mono fun _ _ h => h.place hg
theorem pSub (b x' g c : Nat) (y z : Int) (w : World) (hx : BigV w b g c y) (hy : BigK w x' z) (ky : Small y) (kz : Small z) (hsep : ∀ gy cy, BigV w x' gy cy z → z = 0 ∨ gy ≠ g) (hxg : x' ≠ g) :
    Calls Tryz.prog 255 #[.pointer (some ⟨b, 0, none⟩), .pointer (some ⟨b, 0, none⟩), .pointer (some ⟨x', 0, none⟩)] w (RetIP b g (y - z) w) := by
  obtain ⟨gz, n0, s0, A, AX, AY, zs, xs, ys, cx, cy, nx, ny, H, rfl, rfl, _, _, hg⟩ := in2_place hx hy ky kz hsep hxg
  exact (vSub H).mono fun _ _ h => h.place hg
theorem pMul (b x' g c : Nat) (y z : Int) (w : World) (hx : BigV w b g c y) (hy : BigK w x' z) (ky : Small y) (kz : Small z) (hsep : ∀ gy cy, BigV w x' gy cy z → z = 0 ∨ gy ≠ g) (hxg : x' ≠ g) (hne : b ≠ x') (hT : Thr w) :
    Calls Tryz.prog 85 #[.pointer (some ⟨b, 0, none⟩), .pointer (some ⟨b, 0, none⟩), .pointer (some ⟨x', 0, none⟩)] w (RetIP b g (y * z) w) := by
  have hq := ptr_diff hx.k hy hne
  obtain ⟨gz, n0, s0, A, AX, AY, zs, xs, ys, cx, cy, nx, ny, H, rfl, rfl, hl, hc, hg⟩ := in2_place hx hy ky kz hsep hxg
  exact (vMul H hq (by omega) (by omega) hc.1 hc.2 hT).mono fun _ _ h => h.place hg
end Go.Proofs.YtcoffndnfaemoaaGreatDoor

namespace Go.Proofs.YtcoffndnfaemoaaGreatDoor
open Go Go.RowKit

set_option maxRecDepth 100000 in
set_option maxHeartbeats 400000 in
theorem vCmp (a b : Nat) (y z : Int) (w : World) (hu : BigK w a y) (hv : BigK w b z) :
    Calls Tryz.prog 180 #[.pointer (some ⟨a, 0, none⟩), .pointer (some ⟨b, 0, none⟩)] w (RetQ (.int .i64 (cmpZ y z)) w) := by
  obtain ⟨gu, c, _, A, xs, nx, ha, hxv, hxN, hx0, rfl⟩ := hu
  obtain ⟨gv, d, _, B, ys, ny, hb, hyv, hyN, hy0, rfl⟩ := hv
  have hxw := hxv.words; have hyw := hyv.words
  have hx1 : xs.length ≤ 1000000 := Nat.le_trans hxv.le hxv.cap_le
  have hy1 : ys.length ≤ 1000000 := Nat.le_trans hyv.le hyv.cap_le
  clear hxv hyv
  by_cases hab : a = b
  · subst hab
    have hsame : bigVal nx xs = bigVal ny ys := by
      unfold Blk at ha hb
      rw [ha] at hb
      injection hb with hb
      injection hb with hb _
      injection hb with hb
      injection hb with h1 h2
      injection h1 with h1
      injection h2 with h2
      injection h2 with h2 h3 _
      subst h1
      rcases Nat.eq_zero_or_pos xs.length with e | e
      · have e1 := List.eq_nil_of_length_eq_zero e
        have e2 := List.eq_nil_of_length_eq_zero (l := ys) (by omega)
        rw [e1, e2]
      · obtain ⟨g, o, hA, hc⟩ := hxw.get (by intro h; subst h; simp at e)
        obtain ⟨g', o', hB, hc'⟩ := hyw.get (by intro h; rw [h] at h3; simp at h3; rw [h3] at e; simp at e)
        rw [hA, hB] at h2
        injection h2 with h2
        injection h2 with h2 h4 _
        subst h2; subst h4
        have : xs = ys := by
          refine List.ext_getElem h3 (fun i h1 h2 => ?_)
          have := (hc i h1).symm.trans (hc' i h2)
          simp only [Option.some.injEq, Value.int.injEq, true_and] at this; omega
        rw [this]
    have F := Lib.hid (show cmpZ (bigVal nx xs) (bigVal ny ys) = 0 by rw [hsame]; exact cmpZ_eq _)
    have hp := ptr_eq_same w a
    clear hsame ha hb hxw hyw hxN hyN hx0 hy0
    go_enter Tryz.func180, Tryz.ntmps180
    go_wp2
    go_ret
    rw [F.out]; exact ⟨rfl, dr0 _⟩
  · have hp := ptr_eq_other w ha hb hab
    have a0 : w.cell? ⟨a, 0, none⟩ = some (.bool nx) := (ha.cell 0).trans rfl
    have a1 : w.cell? ⟨a, 1, none⟩ = some (.slice A xs.length c) := (ha.cell 1).trans rfl
    have b0 : w.cell? ⟨b, 0, none⟩ = some (.bool ny) := (hb.cell 0).trans rfl
    have b1 : w.cell? ⟨b, 1, none⟩ = some (.slice B ys.length d) := (hb.cell 1).trans rfl
    have HC : Hid (∀ W, Words W A xs → Words W B ys → Calls Tryz.prog 130 #[.slice A xs.length c, .slice B ys.length d] W (RetQ (.int .i64 (cmpZ (natOf xs) (natOf ys))) W)) := fun W h1 h2 => natCmp A B c d xs ys W h1 h2 hxN hyN (by omega) (by omega)
    have HX := Lib.hid hxw; have HY := Lib.hid hyw
    have hpx : nx = true → 0 < natOf xs := fun e => natOf_pos hxN (fun h => by rw [hx0 h] at e; cases e)
    have hpy : ny = true → 0 < natOf ys := fun e => natOf_pos hyN (fun h => by rw [hy0 h] at e; cases e)
    have F := Lib.hid (show cmpZ (bigVal nx xs) (bigVal ny ys) = if nx = ny then (if nx then -cmpZ (natOf xs) (natOf ys) else cmpZ (natOf xs) (natOf ys)) else if nx then -1 else 1 by
      cases nx <;> cases ny <;> simp only [bigVal, if_true, if_false, Bool.false_eq_true, reduceCtorEq]
      · have := hpy rfl; unfold cmpZ; rw [if_neg (by omega), if_pos (by omega)]
      · have := hpx rfl; unfold cmpZ; rw [if_pos (by omega)]
      · have := cmpZ_flip true (natOf xs) (natOf ys); simpa using this.symm)
    clear ha hb hxw hyw hxN hyN hx0 hy0 hpx hpy
    cases nx <;> cases ny
    all_goals
      go_enter Tryz.func180, Tryz.ntmps180
      go_wp2
      go_quiet (fail)
      go_wp2
    · go_quiet ((go_at_call 130; exact quietQ (HC.out _ (by exact HX.out) (by exact HY.out))))
      go_wp2
      go_ret
      rw [F.out]; exact ⟨rfl, by first | exact dr1 _ _ | exact dr2 _ _ _⟩
    · go_ret
      rw [F.out]; exact ⟨rfl, by first | exact dr1 _ _ | exact dr2 _ _ _⟩
    · go_ret
      rw [F.out]; exact ⟨rfl, by first | exact dr1 _ _ | exact dr2 _ _ _⟩
    · go_quiet ((go_at_call 130; exact quietQ (HC.out _ (by exact HX.out) (by exact HY.out))))
      go_wp2
      go_ret
      rw [F.out]
      have hr : -1 ≤ cmpZ (natOf xs) (natOf ys) ∧ cmpZ (natOf xs) (natOf ys) ≤ 1 := by unfold cmpZ; split <;> (try split) <;> omega
      have e : wrap64 (-cmpZ (natOf xs) (natOf ys)) = -cmpZ (natOf xs) (natOf ys) := by unfold wrap64; omega
      refine ⟨?_, by first | exact dr1 _ _ | exact dr2 _ _ _⟩
      show Ending.returned (.int .i64 (wrap64 (-cmpZ (natOf xs) (natOf ys)))) = _
      rw [e]; rfl
end Go.Proofs.YtcoffndnfaemoaaGreatDoor

namespace Go.Proofs.YtcoffndnfaemoaaGreatDoor
open Go Go.RowKit

/-- A big integer, all of it newer than w0. -/
def BigF (w0 w : World) (b : Nat) (z : Int) : Prop := w0.heap.size ≤ b ∧ ∃ g c, BigV w b g c z ∧ w0.heap.size ≤ g
theorem BigF.k {w0 w : World} {b : Nat} {z : Int} (h : BigF w0 w b z) : BigK w b z := by
  obtain ⟨_, g, c, h, _⟩ := h; exact ⟨g, c, h⟩
theorem BigF.ext {w0 w w' : World} {b : Nat} {z : Int} (h : BigF w0 w b z) (e : Ext w w') : BigF w0 w' b z := by
  obtain ⟨h1, g, c, h, h2⟩ := h; exact ⟨h1, g, c, h.ext e, h2⟩
theorem BigF.old {w0 w1 w : World} {b : Nat} {z : Int} (h : BigF w1 w b z) (e : Ext w0 w1) : BigF w0 w b z := by
  obtain ⟨h1, g, c, h, h2⟩ := h; exact ⟨Nat.le_trans e.size h1, g, c, h, Nat.le_trans e.size h2⟩
theorem BigV.only {w w' : World} {b g c j : Nat} {z : Int} {t : TypeId} {cs : List Value} (h : BigV w b g c z) (e : Only j w w') (hj : Blk w j t cs) (h1 : 167 ≠ t := by decide) (h2 : 126 ≠ t := by decide) : BigV w' b g c z := by
  obtain ⟨hg, A, ws, neg, hb, hv, hr⟩ := h
  refine ⟨hg, A, ws, neg, e.block' hb (hb.ne hj h2), hv.only e (fun hA => ?_), hr⟩
  rcases hv with ⟨h, _⟩ | ⟨_, _, _, full, hf, _⟩
  · exact absurd h hA
  · exact hf.1.ne hj h1
theorem BigF.set_ {w0 w : World} {b j : Nat} {z : Int} {t : TypeId} {cs : List Value} (h : BigF w0 w b z) (hj : Blk w j t cs) (i : Nat) (u : Value) (h1 : 167 ≠ t := by decide) (h2 : 126 ≠ t := by decide) : BigF w0 (w.setCell ⟨j, i, none⟩ u) b z := by
  obtain ⟨k1, g, c, h, k2⟩ := h
  exact ⟨k1, g, c, h.only ((Only.refl j w).set_ i u) hj h1 h2, k2⟩
theorem BigK.set_ {w : World} {b j : Nat} {z : Int} {t : TypeId} {cs : List Value} (h : BigK w b z) (hj : Blk w j t cs) (i : Nat) (u : Value) (h1 : 167 ≠ t := by decide) (h2 : 126 ≠ t := by decide) : BigK (w.setCell ⟨j, i, none⟩ u) b z := by
  obtain ⟨g, c, h⟩ := h
  exact ⟨g, c, h.only ((Only.refl j w).set_ i u) hj h1 h2⟩
/-- A pointer to a new big integer; a decimal of a new big integer. -/
def RetPK (z : Int) (w : World) (e : Ending) (w' : World) : Prop := ∃ b, e = .returned (.pointer (some ⟨b, 0, none⟩)) ∧ BigF w w' b z ∧ Ext w w'
def RetDK (z : Int) (w : World) (e : Ending) (w' : World) : Prop := ∃ b, e = .returned (.agg #[.pointer (some ⟨b, 0, none⟩)]) ∧ BigF w w' b z ∧ Ext w w'
abbrev decBox (b : Nat) : Obj := .cells #[.pointer (some ⟨b, 0, none⟩)] 84
theorem RetNB.fin {b : Nat} {z : Int} {w w2 : World} {e : Ending} {w' : World} (h : RetNB b z w2 e w') (hE : Ext w w2) (hb : w.heap.size ≤ b) : RetPK z w e w' := by
  obtain ⟨rfl, g, c, hv, hg, ho⟩ := h
  exact ⟨b, rfl, ⟨hb, g, c, hv, Nat.le_trans hE.size hg⟩, Only.ext hE ho hb⟩

theorem bigF_one (w : World) (x : Nat) (neg : Bool) (hx : x < B64) (h0 : x ≠ 0) :
    BigF w ((w.alloc (.cells #[.int .u64 (x : Int)] 167)).alloc (.cells #[.bool neg, .slice (some ⟨w.heap.size, 0, none⟩) 1 1] 126)) (w.heap.size + 1) (bigVal neg [x]) := by
  have hs : (w.alloc (.cells #[.int .u64 (x : Int)] 167)).heap.size = w.heap.size + 1 := by simp
  have hb := Blk.new (w.alloc (.cells #[.int .u64 (x : Int)] 167)) 126 [.bool neg, .slice (some ⟨w.heap.size, 0, none⟩) 1 1]
  rw [hs] at hb
  refine ⟨by omega, w.heap.size, 1, ⟨by omega, some ⟨w.heap.size, 0, none⟩, [x], neg, hb, Or.inr ⟨rfl, by omega, Nat.le_refl _, [x], ⟨?_, ?_⟩, rfl, rfl⟩, ?_, by simp, rfl⟩, Nat.le_refl _⟩
  · exact (Blk.new w _ [.int .u64 (x : Int)]).ext (Ext.alloc' _ _)
  · simpa using hx
  · intro y hy; simp at hy; omega
theorem bigF_zero (w : World) : BigF w (w.alloc (.cells #[.bool false, .slice none 0 0] 126)) w.heap.size 0 :=
  ⟨Nat.le_refl _, w.heap.size + 1, 0, ⟨by omega, none, [], false, Blk.new _ _ [.bool false, .slice none 0 0], NatV.nil _ _, norm_nil, fun _ => rfl, rfl⟩, by omega⟩
set_option maxRecDepth 100000 in
theorem kNewZero (w : World) : Calls Tryz.prog 86 #[.int .i64 0] w (RetPK 0 w) := by
  go_enter Tryz.func86, Tryz.ntmps86
  go_wp2
  go_ret
  exact ⟨_, rfl, bigF_zero _, Ext.alloc' _ _⟩
set_option maxRecDepth 100000 in
theorem kNewPos (x : Nat) (w : World) (h0 : 0 < x) (h1 : x ≤ 9223372036854775807) : Calls Tryz.prog 86 #[.int .i64 (x : Int)] w (RetPK x w) := by
  have e : ((x : Int) == 0) = false := by simp; omega
  have e' : decide ((x : Int) < 0) = false := by simp
  have H := bigF_one w x false (by unfold B64; omega) (by omega)
  go_enter Tryz.func86, Tryz.ntmps86
  go_wp2
  go_ret
  exact ⟨_, rfl, by simpa [bigVal, natOf_one] using H, (Ext.alloc' _ _).trans' (Ext.alloc' _ _)⟩
set_option maxRecDepth 100000 in
theorem kNewNeg (x : Nat) (w : World) (h0 : 0 < x) (h1 : x ≤ 9223372036854775807) : Calls Tryz.prog 86 #[.int .i64 (-(x : Int))] w (RetPK (-(x : Int)) w) := by
  have e : (-(x : Int) == 0) = false := by simp; omega
  have e' : decide (-(x : Int) < 0) = true := by simp; omega
  have E := Lib.hid (u64_neg (-(x : Int)) (by omega) (by omega))
  have H := Lib.hid (bigF_one w x true (by unfold B64; omega) (by omega))
  go_enter Tryz.func86, Tryz.ntmps86
  go_wp2
  go_ret
  refine ⟨_, rfl, ?_, (Ext.alloc' _ _).trans' (Ext.alloc' _ _)⟩
  rw [E.out, Int.neg_neg]
  simpa [bigVal, natOf_one] using H.out
theorem kNew (x : Int) (w : World) (h0 : -9223372036854775807 ≤ x) (h1 : x ≤ 9223372036854775807) : Calls Tryz.prog 86 #[.int .i64 x] w (RetPK x w) := by
  rcases Int.lt_trichotomy x 0 with h | rfl | h
  · obtain ⟨n, rfl⟩ : ∃ n : Nat, x = -(n : Int) := ⟨(-x).toNat, by omega⟩
    exact kNewNeg n w (by omega) (by omega)
  · exact kNewZero w
  · obtain ⟨n, rfl⟩ : ∃ n : Nat, x = n := ⟨x.toNat, by omega⟩
    exact kNewPos n w (by omega) (by omega)

theorem new0 (w : World) : Blk (w.alloc (.cells #[.bool false, .slice none 0 0] 126)) w.heap.size 126 [.bool false, .slice none 0 0] := Blk.new _ _ _
theorem p18 : (10 : Nat) ^ 18 < B64 ^ 11 := by unfold B64; decide
theorem p256 : (2 : Nat) ^ 256 < B64 ^ 11 := by unfold B64; decide
theorem bl18 : Lib.bitLen 18 = 4 + 1 := by decide
theorem bl256 : Lib.bitLen 256 = 8 + 1 := by decide

/-- 10^18, behind a name. -/
def T18 : Int := 1000000000000000000
/-- The upper limit. -/
def UPL : Int := 115792089237316195423570985008687907853269984665640564039457584007913129639936 * T18 - 1

set_option maxRecDepth 100000 in
theorem dPrec (w : World) (hT : Thr w) : Calls Tryz.prog 177 #[] w (RetPK T18 w) := by
  have HT := Lib.hid hT; clear hT
  go_enter Tryz.func177, Tryz.ntmps177
  have hb := new0 w
  have e0 := Ext.alloc' w (.cells #[.bool false, .slice none 0 0] 126)
  have HB := Lib.hid hb; have E0 := Lib.hid e0
  clear hb e0
  go_wp2_with (fail)
  go_at_call 86
  refine (kNew 10 _ (by omega) (by omega)).mono ?_
  rintro e w1 ⟨p1, rfl, h1, x1⟩
  have E1 := Lib.hid x1; have H1 := Lib.hid h1; clear x1 h1
  go_wp2_with (fail)
  go_at_call 86
  refine (kNew 18 w1 (by omega) (by omega)).mono ?_
  rintro e w2 ⟨p2, rfl, h2, x2⟩
  have hE := E1.out.trans' x2
  have n1 : p1 ≠ w.heap.size := by have := H1.out.1; have := E0.out.size; simp at *; omega
  have n2 : p2 ≠ w.heap.size := by have := h2.1; have := E1.out.size; simp at *; omega
  have HX := Lib.hid (vExpo w.heap.size p1 p2 10 18 4 2 w2 (HB.out.ext hE) (H1.out.k.ext x2) h2.k n1 n2 (by unfold B64; omega) (by unfold B64; omega) (by omega) (by omega) rfl (by omega) (by omega) (by omega) bl18 p18 (HT.out.ext (E0.out.trans' hE)))
  have HE := Lib.hid (E0.out.trans' hE)
  clear hE h2 x2 n1 n2
  go_wp2_with (fail)
  go_at_call 225
  refine HX.out.mono ?_
  rintro e w3 h3
  obtain ⟨b, rfl, hf, hx⟩ := h3.fin HE.out (Nat.le_refl _)
  have HF := Lib.hid hf; have HX3 := Lib.hid hx
  clear h3 hf hx
  go_wp2
  go_ret
  exact ⟨b, rfl, HF.out, HX3.out⟩
end Go.Proofs.YtcoffndnfaemoaaGreatDoor
