/-
  The specification's DeciBoth: the less of two, name by name.
  LegacyMinDec, removeZeroDecCoins, DecCoins.Intersect, impl.DecIntersect.
-/
import Derived.Test.YtfocejhcdcnnhaaGreatDoorHB
import Derived.Test.YtfocejhcdcnnhaaGreatDoorHA
import Derived.Test.YtfocejhcdcnnhaaGreatDoorDOne
namespace Go.Proofs.YtfocejhcdcnnhaaGreatDoor
open Go Go.RowKit

/-- The less of the two, name by name. -/
def dboth (l m : List (ByteArray × Int)) : List (ByteArray × Int) := l.map fun x => (x.1, if totalP x.1 m < x.2 then totalP x.1 m else x.2)
theorem dboth_take {l m : List (ByteArray × Int)} {k : Nat} (hk : k < l.length) {s : ByteArray} {z : Int} (he : l[k] = (s, z)) : dboth (l.take (k + 1)) m = dboth (l.take k) m ++ [(s, if totalP s m < z then totalP s m else z)] := by
  rw [List.take_succ_eq_append_getElem hk, he]; simp [dboth]
theorem bsgn_lt {a b : Int} (h : a < b) : sgn (a - b) < 0 := by unfold sgn; rw [if_pos (by omega)]; omega
theorem bsgn_ge {a b : Int} (h : ¬ a < b) : ¬ sgn (a - b) < 0 := by unfold sgn; rw [if_neg (by omega)]; split <;> omega

end Go.Proofs.YtfocejhcdcnnhaaGreatDoor

namespace Go.Proofs.YtfocejhcdcnnhaaGreatDoor
open Go Go.RowKit

set_option maxRecDepth 100000 in
set_option maxHeartbeats 1000000 in
theorem dMinDec (a b r : Nat) (y z : Int) (w : World) (hu : BigK w a y) (hv : BigK w b z) (hr : r = if y < z then a else b) :
    Calls Tryz.prog 103 #[.agg #[.pointer (some ⟨a, 0, none⟩)], .agg #[.pointer (some ⟨b, 0, none⟩)]] w (RetE (.agg #[.pointer (some ⟨r, 0, none⟩)]) w) := by
  obtain ⟨W, hW⟩ : ∃ W, W = ((w.alloc (decBox a)).alloc (decBox b)).alloc (.cells #[.pointer none] 77) := ⟨_, rfl⟩
  have K0 := Lib.hid (show Blk W w.heap.size 77 [.pointer (some ⟨a, 0, none⟩)] by rw [hW]; exact ((blk_new0 w 77 [.pointer (some ⟨a, 0, none⟩)]).alloc _).alloc _)
  have K1 := Lib.hid (show Blk W (w.heap.size + 1) 77 [.pointer (some ⟨b, 0, none⟩)] by rw [hW]; exact (blk_new1 w (decBox a) 77 [.pointer (some ⟨b, 0, none⟩)]).alloc _)
  have K2 := Lib.hid (show Blk W (w.heap.size + 2) 77 [.pointer none] by rw [hW]; exact blk_new2 w _ _ 77 [.pointer none])
  have EW := Lib.hid (show Ext w W by rw [hW]; exact ext3 _ _ _ _)
  have HWW := Lib.hid hW; clear hW
  have H := Lib.hid (dLT a b y z W (hu.ext EW.out) (hv.ext EW.out))
  have HR := Lib.hid hr
  clear hu hv hr
  have a0 : W.cell? ⟨w.heap.size, 0, none⟩ = some (.pointer (some ⟨a, 0, none⟩)) := (K0.out.cell 0).trans rfl
  have a1 : W.cell? ⟨w.heap.size + 1, 0, none⟩ = some (.pointer (some ⟨b, 0, none⟩)) := (K1.out.cell 0).trans rfl
  go_enter Tryz.func103, Tryz.ntmps103
  go_upto_region 1 with fail
  rw [← HWW.out]
  go_wp2_with (fail)
  go_at_call 137
  refine H.out.mono ?_
  rintro e w1 ⟨rfl, hE⟩
  have HE := Lib.hid hE; have J0 := K0.out.ext hE; have J1 := K1.out.ext hE; have KR := Lib.hid (K2.out.ext hE)
  clear hE a0 a1 H
  have a0 : w1.cell? ⟨w.heap.size, 0, none⟩ = some (.pointer (some ⟨a, 0, none⟩)) := (J0.cell 0).trans rfl
  have a1 : w1.cell? ⟨w.heap.size + 1, 0, none⟩ = some (.pointer (some ⟨b, 0, none⟩)) := (J1.cell 0).trans rfl
  have z0 : w1.cell? ⟨w.heap.size + 2, 0, none⟩ = some (.pointer none) := (KR.out.cell 0).trans rfl
  have f0 := KR.out.frozen 0
  have lz := cell_lt z0
  clear J0 J1
  by_cases h : y < z
  · have hr := HR.out
    rw [if_pos h] at hr; subst hr; clear HR
    have d1 : decide (y < z) = true := decide_eq_true h
    go_wp2
    exact bodyPost_ret (v := .agg #[.pointer (some ⟨r, 0, none⟩)]) (by simp [results, Tryz.results103, go_sem, z0]) rfl ⟨rfl, Only.ext (EW.out.trans' HE.out) ((Only.refl _ _).set_ 0 _) (by omega)⟩
  · have hr := HR.out
    rw [if_neg h] at hr; subst hr; clear HR
    have d1 : decide (y < z) = false := decide_eq_false h
    go_wp2
    exact bodyPost_ret (v := .agg #[.pointer (some ⟨r, 0, none⟩)]) (by simp [results, Tryz.results103, go_sem, z0]) rfl ⟨rfl, Only.ext (EW.out.trans' HE.out) ((Only.refl _ _).set_ 0 _) (by omega)⟩

/-- A new variable that holds a decimal coin. -/
def IBox (s : ByteArray) (z : Int) (W : World) (u : Value) (wx : World) : Prop := ∃ p r, u = .pointer (some ⟨p, 0, none⟩) ∧ Blk wx p 106 [.string s, .pointer (some ⟨r, 0, none⟩)] ∧ BigK wx r z ∧ Ext W wx
theorem iBox_n {W w2 : World} {r : Nat} {z : Int} (s : ByteArray) (hB : BigK w2 r z) (hE : Ext W w2) : IBox s z W (.pointer (some ⟨w2.heap.size, 0, none⟩)) (w2.alloc (dcoinCells s r)) :=
  ⟨_, r, rfl, blk_new0 w2 _ [.string s, .pointer (some ⟨r, 0, none⟩)], hB.ext (ext1 _ _), hE.trans' (ext1 _ _)⟩
theorem iBox_o {W w2 : World} {r p : Nat} {c d : Value} {z : Int} (s : ByteArray) (hK : Blk w2 p 106 [c, d]) (hp : W.heap.size ≤ p) (hB : BigK w2 r z) (hE : Ext W w2) : IBox s z W (.pointer (some ⟨p, 0, none⟩)) ((w2.setCell ⟨p, 0, none⟩ (.string s)).setCell ⟨p, 1, none⟩ (.pointer (some ⟨r, 0, none⟩))) :=
  ⟨_, r, rfl, dblk_two hK, dbig_two hB hK, dext_two hE hp⟩
theorem dcG0 (W : World) : Ext W W.drew := Ext.drewN' _ 1
theorem dcG1 (W : World) : Ext W (W.alloc dcoinZero).drew := (ext1 _ _).trans' (Ext.drewN' _ 1)
theorem dcG2 (W : World) : Ext W W := Ext.refl _
theorem dcG3 (W : World) : Ext W (W.alloc dcoinZero) := ext1 _ _
/-- The coin that the region reads. -/
def DI2 (p : Nat) (s : ByteArray) (b : Nat) (w' : World) : Prop := w'.cell? ⟨p, 0, none⟩ = some (.string s) ∧ w'.cell? ⟨p, 1, none⟩ = some (.pointer (some ⟨b, 0, none⟩))
theorem DI2.ext {p b : Nat} {s : ByteArray} {w w' : World} (h : DI2 p s b w) (e : Ext w w') : DI2 p s b w' := ⟨e.cell' h.1, e.cell' h.2⟩
theorem DI2.drew {p b : Nat} {s : ByteArray} {w : World} (h : DI2 p s b w) : DI2 p s b w.drew := h
theorem DI2.alloc {p b : Nat} {s : ByteArray} {w : World} (h : DI2 p s b w) (o : Obj) : DI2 p s b (w.alloc o) := h.ext (Ext.alloc' _ _)
theorem DI2.set2 {p b g : Nat} {s : ByteArray} {w : World} {u v : Value} (h : DI2 p s b w) (h1 : p ≠ g) : DI2 p s b ((w.setCell ⟨g, 0, none⟩ u).setCell ⟨g, 1, none⟩ v) := ⟨set_far (set_far h.1 h1) h1, set_far (set_far h.2 h1) h1⟩
theorem row_made {w : World} {base g n : Nat} {E : TypeId} {xs : List Value} (h : w.ownsRow base E 2 (.slice (some ⟨g, 0, none⟩) n n) n xs) : ∃ cur : List Value, Blk w g E cur ∧ cur.length = n * 2 := by
  rcases h.2 with ⟨hv, _⟩ | ⟨g', cap, cur, hv, _, hh, _, _, hs, _⟩
  · injection hv with h1; cases h1
  · injection hv with h1 h2 h3
    injection h1 with h1; injection h1 with h1
    subst h1; subst h3
    exact ⟨cur.toList, by unfold Blk; simpa using hh, by simpa using hs⟩
theorem take_set2 {cur xs : List Value} {k : Nat} (u v : Value) (h : cur.take (k * 2) = xs) (hk : k * 2 + 1 < cur.length) : ((cur.set (k * 2) u).set (k * 2 + 1) v).take ((k + 1) * 2) = xs ++ [u, v] := by
  subst h
  apply List.ext_getElem?
  intro i
  by_cases h1 : i < k * 2
  · rw [List.getElem?_append_left (by simp; omega), List.getElem?_take, if_pos (by omega), List.getElem?_set_ne (by omega), List.getElem?_set_ne (by omega), List.getElem?_take, if_pos h1]
  · rw [List.getElem?_append_right (by simp; omega), List.length_take, Nat.min_eq_left (by omega), List.getElem?_take]
    rcases (by omega : i = k * 2 ∨ i = k * 2 + 1 ∨ k * 2 + 2 ≤ i) with rfl | rfl | h2
    · rw [if_pos (by omega), List.getElem?_set_ne (by omega), List.getElem?_set_self (by omega), Nat.sub_self]; rfl
    · rw [if_pos (by omega), List.getElem?_set_self (by simp; omega), show k * 2 + 1 - k * 2 = 1 by omega]; rfl
    · rw [if_neg (by omega), List.getElem?_eq_none (by simp; omega)]
theorem rec_of_blk {w : World} {g : Nat} {E : TypeId} {cur : List Value} {cs : List Co} (hb : Blk w g E cur) (ht : cur.take (cs.length * 2) = flat2 (cs.map Co.pair)) : RecAt w (some ⟨g, 0, none⟩) (cs.map Co.pair) := fun _ => by
  refine ⟨g, 0, rfl, fun j hj => ?_⟩
  have hj' : j < cs.length := by simpa using hj
  obtain ⟨h1, h2⟩ := flat2_get (cs.map Co.pair) j hj
  rw [← ht, List.getElem?_take, if_pos (by omega)] at h1 h2
  exact ⟨by rw [hb.cell, Nat.zero_add]; exact h1, by rw [hb.cell, Nat.zero_add]; exact h2⟩
theorem dMinDec' (a b : Nat) (y z : Int) (w : World) (hu : BigK w a y) (hv : BigK w b z) :
    Calls Tryz.prog 103 #[.agg #[.pointer (some ⟨a, 0, none⟩)], .agg #[.pointer (some ⟨b, 0, none⟩)]] w (RetAmt (if z < y then z else y) w) := by
  refine (dMinDec a b _ y z w hu hv rfl).mono fun e w' ⟨he, hE⟩ => ⟨_, he, ?_, hE⟩
  by_cases h : y < z
  · rw [if_pos h, if_neg (by omega)]; exact hu.ext hE
  · rw [if_neg h]
    by_cases h2 : z < y
    · rw [if_pos h2]; exact hv.ext hE
    · rw [if_neg h2, show y = z by omega]; exact hv.ext hE

set_option maxRecDepth 100000 in
set_option maxHeartbeats 4000000 in
theorem tdIntersect (A B : Option Addr) (n c m d : Nat) (l k : List Co) (w : World) (hl : l.length = n) (hk : k.length = m) (hn : n ≤ 100000) (hm : m ≤ 100000) (hmd : m ≤ d) (hA : DCoinsAt w A l) (hB : DCoinsAt w B k) (hs : AscP (k.map Co.val)) :
    Calls Tryz.prog 64 #[.slice A n c, .slice B m d] w (RetDCoins (vnz (dboth (l.map Co.val) (k.map Co.val))) w) := by
  obtain ⟨i0, hi, hz0, hz1, hz2⟩ := info_parts infoDCoin
  have HL := Lib.hid hl; have HK := Lib.hid hk; have HP := Lib.hid hA; have HB := Lib.hid hB; have HSO := Lib.hid hs
  clear hl hk hA hB hs
  go_enter Tryz.func64, Tryz.ntmps64
  go_wp2_with (first | (at_make; refine wpList_make_full _ rfl _ _ 71 rfl w.heap.size 106 i0 _ 2 Tryz.underlying71 hi hz0 hz1 .i64 .i64 (n : Int) (n : Int) n rfl rfl rfl rfl (by rw [hz2]; omega) (by unfold maxLen; omega) (Nat.le_refl _) ?_; intro w0 hown0 hg0; obtain ⟨cur0, hb0, hl0⟩ := row_made hown0; have HB0 := Lib.hid hb0; have HL0 := Lib.hid hl0; have HE0 := Lib.hid (dext_none hg0); clear hown0 hg0 hb0 hl0) | fail)
  obtain ⟨g0, hg0⟩ : ∃ g0, g0 = w.heap.size := ⟨_, rfl⟩
  rw [← hg0] at HB0 ⊢
  have HG0 := Lib.hid hg0; clear hg0
  go_loopw [14] (fun i wr => ∃ (j : Nat) (cs : List Co) (cur : List Value), j ≤ n ∧ i = .int .i64 j ∧ cs.length = j ∧ cs.map Co.val = dboth ((l.map Co.val).take j) (k.map Co.val) ∧ Blk wr g0 106 cur ∧ cur.length = n * 2 ∧ cur.take (cs.length * 2) = flat2 (cs.map Co.pair) ∧ DBigs wr cs ∧ Ext w wr) (fun i _ => n - (intOf i).toNat)
  case atStart => exact ⟨0, [], cur0, Nat.zero_le _, rfl, rfl, rfl, HB0.out, HL0.out, by simp [flat2], (fun _ h => nomatch h), HE0.out⟩
  case round =>
    obtain ⟨j, cs, cur, hj, rfl, hcl, hcv, hbk, hcu, hct, hbs, hE⟩ := hrel
    have HC := Lib.hid hcl; have HV := Lib.hid hcv; have HBK := Lib.hid hbk; have HCU := Lib.hid hcu; have HCT := Lib.hid hct; have HBS := Lib.hid hbs; have HE := Lib.hid hE
    clear hcl hcv hbk hcu hct hbs hE
    by_cases hlt : j < n
    · have hkl : j < l.length := by rw [HL.out]; exact hlt
      obtain ⟨s, hs⟩ : ∃ s, s = l[j].s := ⟨_, rfl⟩
      obtain ⟨b, hb⟩ : ∃ b, b = l[j].b := ⟨_, rfl⟩
      obtain ⟨z, hzz⟩ : ∃ z, z = l[j].z := ⟨_, rfl⟩
      obtain ⟨g, o, hA, hc⟩ := HP.out.1 (by intro e; have := congrArg List.length e; simp at this; rw [this] at hkl; simp at hkl)
      subst hA
      have hck := hc j (by simpa using hkl)
      have cs0 : wr.cell? ⟨g, o + j * 2, none⟩ = some (.string s) := HE.out.cell' (by rw [hck.1, hs]; simp [Co.pair])
      have cs1 : wr.cell? ⟨g, o + j * 2 + 1, none⟩ = some (.pointer (some ⟨b, 0, none⟩)) := HE.out.cell' (by rw [hck.2, hb]; simp [Co.pair])
      have HBB := Lib.hid (show BigK wr b z by rw [hb, hzz]; exact (HP.out.2 _ (List.getElem_mem hkl)).ext HE.out)
      have HX := Lib.hid (show (l.map Co.val)[j]'(by simpa using hkl) = (s, z) by simp [Co.val, hs, hzz])
      clear hs hb hzz hck hc
      obtain ⟨T, hT⟩ : ∃ T, T = totalP s (k.map Co.val) := ⟨_, rfl⟩
      have HTT := Lib.hid hT; clear hT
      obtain ⟨W, hW⟩ : ∃ W, W = wr.alloc (dcBox s b) := ⟨_, rfl⟩
      have K1 := Lib.hid (show Blk W wr.heap.size 106 [.string s, .pointer (some ⟨b, 0, none⟩)] by rw [hW]; exact blk_new0 wr 106 [.string s, .pointer (some ⟨b, 0, none⟩)])
      have E1 := Lib.hid (show Ext wr W by rw [hW]; exact ext1 _ _)
      have HW1 := Lib.hid hW; clear hW
      have HAM := Lib.hid (fun (V : World) (e : Ext W V) => tdAmountOf s (m + 1) B m d k V HK.out (by omega) hm hmd (HB.out.ext ((HE.out.trans' E1.out).trans' e)) HSO.out)
      rw [← HTT.out] at HAM
      have HMIN := Lib.hid (fun (r1 : Nat) (w1 : World) (e1 : Ext W w1) (h1 : BigK w1 r1 T) (V : World) (e : Ext w1 V) => dMinDec' b r1 z T V (HBB.out.ext ((E1.out.trans' e1).trans' e)) (h1.ext e))
      go_upto_region 5 with fail
      rw [← HW1.out]
      obtain ⟨q, hq⟩ : ∃ q, q = wr.heap.size := ⟨_, rfl⟩
      rw [← hq] at K1 ⊢
      have HQ := Lib.hid hq; clear hq
      have c0 : W.cell? ⟨q, 0, none⟩ = some (.string s) := (K1.out.cell 0).trans rfl
      have c1 : W.cell? ⟨q, 1, none⟩ = some (.pointer (some ⟨b, 0, none⟩)) := (K1.out.cell 1).trans rfl
      have lq := cell_lt c0
      have KS0 := Lib.hid (show DI2 q s b W from ⟨c0, c1⟩)
      have KS0d := Lib.hid (show DI2 q s b W.drew from KS0.out)
      clear cs0 cs1
      go_cut [8] (fun s8 wx => IBox s (if T < z then T else z) W s8 wx)
      case first =>
        go_region_held3 (fun w' => w'.cell? ⟨q, 0, none⟩ = some (.string s) ∧ w'.cell? ⟨q, 1, none⟩ = some (.pointer (some ⟨b, 0, none⟩))) ((show DI2 q s b _; (repeat (first | (with_reducible refine DI2.drew ?_) | (with_reducible refine DI2.alloc ?_ _) | (with_reducible refine DI2.set2 ?_ ?_; rotate_left; omega))); with_reducible first | exact KS2.out | exact KS1.out | exact KS0d.out | exact KS0.out)) (first | (go_at_call 104; (with_reducible refine (HAM.out _ (by with_reducible first | exact dcG0 _ | exact dcG1 _)).mono ?_); rintro e w1 ⟨r1, rfl, hB, hE⟩; have HB1 := Lib.hid hB; have HE1 := Lib.hid (show Ext W w1 by with_reducible first | exact dcoinE0 hE | exact dcoinE1 hE); have KS1 := Lib.hid (KS0.out.ext HE1.out); have sz1 := HE1.out.size; (try ((with_reducible have KA := Lib.hid (dcoinM1 hE)); have lA := KA.out.lt; have pA : ¬ W.heap.size = w1.heap.size := (by omega); have pA' : ¬ w1.heap.size = W.heap.size := (by omega))); clear hE hB c0 c1) | (go_at_call 103; (with_reducible refine (HMIN.out r1 w1 HE1.out HB1.out _ (by with_reducible first | exact dcG2 _ | exact dcG3 _)).mono ?_); rintro e w2 ⟨r2, rfl, hB, hE⟩; have HB2 := Lib.hid hB; have HE12 := Lib.hid (show Ext w1 w2 by with_reducible first | exact hE | exact dcoinF1 hE); have HE2 := Lib.hid (HE1.out.trans' HE12.out); have KS2 := Lib.hid (KS1.out.ext HE12.out); have sz2 := HE12.out.size; (try (have K5 := Lib.hid (KA.out.ext HE12.out); have l5 := K5.out.lt; have q5 : w2.cell? ⟨W.heap.size, 0, none⟩ = some (.string ⟨#[]⟩) := (K5.out.cell 0).trans rfl; have r5 : w2.cell? ⟨W.heap.size, 1, none⟩ = some (.pointer none) := (K5.out.cell 1).trans rfl; have f5 := K5.out.frozen 0; have g5 := K5.out.frozen 1)); (try ((with_reducible have K7 := Lib.hid (dcoinN1 hE)); have l7 := K7.out.lt; have q7 : w2.cell? ⟨w1.heap.size, 0, none⟩ = some (.string ⟨#[]⟩) := (K7.out.cell 0).trans rfl; have r7 : w2.cell? ⟨w1.heap.size, 1, none⟩ = some (.pointer none) := (K7.out.cell 1).trans rfl; have f7 := K7.out.frozen 0; have g7 := K7.out.frozen 1)); clear hE hB))
        all_goals (go_wp2_with fail; go_meet)
        all_goals first | with_reducible exact iBox_n _ HB2.out HE2.out | with_reducible exact iBox_o _ K5.out (by omega) HB2.out HE2.out | with_reducible exact iBox_o _ K7.out (by omega) HB2.out HE2.out
      case rest =>
        obtain ⟨p, r, rfl, hP, hR, hX⟩ := hcut
        have HEX := Lib.hid (E1.out.trans' hX)
        have KB := Lib.hid (HBK.out.ext HEX.out)
        have HR := Lib.hid hR
        have c0 : wc.cell? ⟨p, 0, none⟩ = some (.string s) := (hP.cell 0).trans rfl
        have c1 : wc.cell? ⟨p, 1, none⟩ = some (.pointer (some ⟨r, 0, none⟩)) := (hP.cell 1).trans rfl
        have lp := cell_lt c0
        have hcl2 : j * 2 + 1 < cur.length := by rw [HCU.out]; omega
        obtain ⟨o0, h0⟩ : ∃ v, wc.cell? ⟨g0, j * 2, none⟩ = some v := ⟨_, (KB.out.cell _).trans (List.getElem?_eq_getElem (by omega))⟩
        obtain ⟨o1, h1⟩ : ∃ v, wc.cell? ⟨g0, j * 2 + 1, none⟩ = some v := ⟨_, (KB.out.cell _).trans (List.getElem?_eq_getElem (by omega))⟩
        have f0 := KB.out.frozen (j * 2); have f1 := KB.out.frozen (j * 2 + 1)
        have lg := KB.out.lt
        have b0 : (0 : Int) ≤ (j : Int) := by omega
        have b1 : (j : Int) < (n : Int) := by omega
        have HCL2 := Lib.hid hcl2
        clear hP hR hX hcl2
        go_wp2
        go_roundw
        case rel =>
          have hj2 : cs.length = j := HC.out
          refine ⟨j + 1, cs ++ [⟨s, r, if T < z then T else z⟩], _, by omega, by go_num, by simp [hj2], ?_, (KB.out.set_ _ _).set_ _ _, by rw [List.length_set, List.length_set]; exact HCU.out, ?_, ?_, Only.ext (HE.out.trans' HEX.out) (((Only.refl _ _).set_ _ _).set_ _ _) (by have := HG0.out; omega)⟩
          · rw [List.map_append, HV.out, dboth_take (by simpa using hkl) HX.out, ← HTT.out]; rfl
          · have ht := HCT.out
            rw [hj2] at ht
            rw [List.length_append, List.length_singleton, hj2, take_set2 _ _ ht HCL2.out, List.map_append, flat2_append]; rfl
          · intro x hx
            rcases List.mem_append.1 hx with hx | hx
            · exact (((HBS.out x hx).ext HEX.out).set_ KB.out _ _).set_ (KB.out.set_ _ _) _ _
            · rw [List.mem_singleton] at hx; subst hx
              exact (HR.out.set_ KB.out _ _).set_ (KB.out.set_ _ _) _ _
        case measure => simp [intOf]; omega
    · obtain rfl : j = n := by omega
      have hj2 : cs.length = j := HC.out
      have HV2 := Lib.hid (show cs.map Co.val = dboth (l.map Co.val) (k.map Co.val) by rw [HV.out, List.take_of_length_le (by simp [HL.out])])
      have HRZ := Lib.hid (tdRemoveZero (some ⟨g0, 0, none⟩) j j cs wr hj2 (by omega) ⟨rec_of_blk HBK.out HCT.out, HBS.out⟩)
      go_wp2_with (first | (go_at_call 105; refine HRZ.out.mono ?_; rintro e w4 ⟨v4, rfl, ho4, hE4⟩; have HO4 := Lib.hid ho4; have HE4 := Lib.hid hE4; clear ho4 hE4) | fail)
      go_ret
      exact ⟨_, dnz cs, rfl, by rw [← HV2.out]; unfold dnz vnz; rw [List.filter_map]; rfl, HO4.out.low HE.out.size, HE.out.trans' HE4.out⟩

/-- The less of two plain lists, name by name. -/
def dcap (la lb : List DP) : List (ByteArray × Int) := vnz (dboth (la.map dval) (lb.map dval))
set_option maxRecDepth 100000 in
set_option maxHeartbeats 2000000 in
theorem iDecIntersect (A B : Option Addr) (n c m d : Nat) (la lb : List DP) (w : World) (hla : la.length = n) (hlb : lb.length = m) (hn : n ≤ 40000) (hm : m ≤ 40000) (hA : DPlainAt w A la) (hB : DPlainAt w B lb)
    (hza : ∀ x ∈ la, DecB x.2.1 x.2.2) (hzb : ∀ x ∈ lb, DecB x.2.1 x.2.2) (hsb : AscP (lb.map dval)) (hT : Thr w) (hs : ∀ x ∈ dcap la lb, FitT x.2) (hlen : (dcap la lb).length ≤ 100000) :
    Calls Tryz.prog 31 #[.slice A n c, .slice B m d] w (RetDBack ((dcap la lb).map dback) w) := by
  have H1 := Lib.hid (iDecCoins A n c la w hla (by omega) hA hza hT)
  have H2 := Lib.hid (fun (W : World) (e : Ext w W) => iDecCoins B m d lb W hlb (by omega) (hB.ext e) hzb (hT.ext e))
  have H3 := Lib.hid (fun (W : World) (e : Ext w W) (A1 B1 : Option Addr) (c1 d1 : Nat) (ca cb : List Co) (va : ca.map Co.val = la.map dval) (vb : cb.map Co.val = lb.map dval) (h1 : m ≤ d1) (k1 : DCoinsAt W A1 ca) (k2 : DCoinsAt W B1 cb) =>
    show Calls Tryz.prog 64 #[.slice A1 n c1, .slice B1 m d1] W (RetDCoins (dcap la lb) W) by
      unfold dcap
      rw [← va, ← vb]
      exact tdIntersect A1 B1 n c1 m d1 ca cb W ((val_len va).trans hla) ((val_len vb).trans hlb) (by omega) (by omega) h1 k1 k2 (by rw [vb]; exact hsb))
  have HLEN := Lib.hid hlen
  obtain ⟨L, hL⟩ : ∃ L, L = dcap la lb := ⟨_, rfl⟩
  rw [← hL] at H3 HLEN hs
  rw [← hL]
  have HS := Lib.hid hs
  have HLA := Lib.hid hla; have HLB := Lib.hid hlb
  clear hla hlb hA hB hza hzb hT hs hL hlen hsb
  go_enter Tryz.func31, Tryz.ntmps31
  go_wp2_with (fail)
  go_at_call 42
  refine H1.out.mono ?_
  rintro e w1 ⟨v1, ca, rfl, va, oa, hE1⟩
  obtain ⟨A1, c1, rfl, hc1⟩ := down_cap oa.1
  have la1 := (val_len va).trans HLA.out
  rw [la1] at hc1 ⊢
  have KA := Lib.hid (show DCoinsAt w1 A1 ca from dcoinsAt_own oa rfl)
  have VA := Lib.hid va; have HE1 := Lib.hid hE1
  clear va oa hE1 hc1 la1
  go_wp2_with (fail)
  go_at_call 42
  refine (H2.out _ HE1.out).mono ?_
  rintro e w2 ⟨v2, cb, rfl, vb, ob, hE2⟩
  obtain ⟨B1, d1, rfl, hd1⟩ := down_cap ob.1
  have lb1 := (val_len vb).trans HLB.out
  rw [lb1] at hd1 ⊢
  have KB := Lib.hid (show DCoinsAt w2 B1 cb from dcoinsAt_own ob rfl)
  have VB := Lib.hid vb; have HE2 := Lib.hid (HE1.out.trans' hE2); have KA2 := Lib.hid (KA.out.ext hE2); have HD1 := Lib.hid hd1
  clear vb ob hE2 hd1 lb1
  go_wp2_with (fail)
  go_at_call 64
  refine (H3.out _ HE2.out A1 B1 c1 d1 ca cb VA.out VB.out HD1.out KA2.out KB.out).mono ?_
  rintro e w3 ⟨v3, cs, rfl, vs, os, hE3⟩
  obtain ⟨A3, c3, rfl, hc3⟩ := down_cap os.1
  have KS := Lib.hid (show DCoinsAt w3 A3 cs from dcoinsAt_own os rfl)
  have VS := Lib.hid vs; have HE3 := Lib.hid (HE2.out.trans' hE3)
  have HL3 := Lib.hid (show cs.length ≤ 1000000 by
    have h9 := congrArg List.length VS.out
    rw [List.length_map] at h9
    have := HLEN.out; omega)
  have HZ3 := Lib.hid (show ∀ x ∈ cs, FitT x.z by
    intro x hx
    exact HS.out x.val (by rw [← VS.out]; exact List.mem_map_of_mem hx))
  have HBK := Lib.hid (iBackDecs A3 cs.length c3 cs w3 rfl HL3.out KS.out HZ3.out)
  rw [show (cs.map fun x => dback x.val) = L.map dback by rw [← VS.out, List.map_map]; rfl] at HBK
  clear vs os hE3 hc3
  go_wp2_with (fail)
  go_at_call 41
  refine HBK.out.mono ?_
  rintro e w4 ⟨v4, rfl, ho, hE4⟩
  have HO := Lib.hid ho; have HE4 := Lib.hid (HE3.out.trans' hE4)
  clear ho hE4
  go_wp2
  go_ret2
  exact ⟨v4, rfl, HO.out.low HE3.out.size, HE4.out⟩
end Go.Proofs.YtfocejhcdcnnhaaGreatDoor
