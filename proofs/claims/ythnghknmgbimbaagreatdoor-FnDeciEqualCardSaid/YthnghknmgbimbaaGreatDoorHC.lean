/-
  The specification's DeciBoth: the less of two, name by name.
  LegacyMinDec, removeZeroDecCoins, DecCoins.Intersect, impl.DecIntersect.
-/
import Derived.Test.YthnghknmgbimbaaGreatDoorHB
import Derived.Test.YthnghknmgbimbaaGreatDoorHA
import Derived.Test.YthnghknmgbimbaaGreatDoorDOne
namespace Go.Proofs.YthnghknmgbimbaaGreatDoor
open Go Go.RowKit

/-- The less of the two, name by name. -/
def dboth (l m : List (ByteArray × Int)) : List (ByteArray × Int) := l.map fun x => (x.1, if totalP x.1 m < x.2 then totalP x.1 m else x.2)
theorem dboth_take {l m : List (ByteArray × Int)} {k : Nat} (hk : k < l.length) {s : ByteArray} {z : Int} (he : l[k] = (s, z)) : dboth (l.take (k + 1)) m = dboth (l.take k) m ++ [(s, if totalP s m < z then totalP s m else z)] := by
  rw [List.take_succ_eq_append_getElem hk, he]; simp [dboth]
theorem bsgn_lt {a b : Int} (h : a < b) : sgn (a - b) < 0 := by unfold sgn; rw [if_pos (by omega)]; omega
theorem bsgn_ge {a b : Int} (h : ¬ a < b) : ¬ sgn (a - b) < 0 := by unfold sgn; rw [if_neg (by omega)]; split <;> omega

set_option maxRecDepth 100000 in
set_option maxHeartbeats 2000000 in
theorem sDeBoth (A B : Option Addr) (n c m d : Nat) (l k : List (ByteArray × Int)) (w : World) (hl : l.length = n) (hk : k.length = m) (hn : n ≤ 100000) (hm : m ≤ 100000) (hA : DeAt w A l) (hB : DeAt w B k) (hs : AscP k)
    (hz : ∀ x ∈ l, x.2.natAbs < B64 ^ 2) (ht : ∀ s, (totalP s k).natAbs < B64 ^ 2) :
    Calls Tryz.prog 38 #[.slice A n c, .slice B m d] w (RetDe (vnz (dboth l k)) w) := by
  obtain ⟨i0, hi, hz0, hz1, hz2⟩ := info_parts infoDe
  have HL := Lib.hid hl; have HK := Lib.hid hk; have HP := Lib.hid hA; have HB := Lib.hid hB; have HSO := Lib.hid hs; have HZ := Lib.hid hz; have HTB := Lib.hid ht
  clear hl hk hA hB hs hz ht
  go_enter Tryz.func38, Tryz.ntmps38
  go_wp2
  go_loopw [5, 11] (fun v i wr => ∃ (j : Nat) (cs : List (ByteArray × Int)), j ≤ n ∧ i = .int .i64 j ∧ cs.length = j ∧ cs = dboth (l.take j) k ∧ DeOwn wr w.heap.size v cs ∧ Ext w wr) (fun _ i _ => n - (intOf i).toNat)
  case atStart => exact ⟨0, [], Nat.zero_le _, rfl, rfl, rfl, DeOwn.nil _ _, Ext.refl _⟩
  case round =>
    obtain ⟨j, cs, hj, rfl, hcl, hcv, hown, hE⟩ := hrel
    have HC := Lib.hid hcl; have HV := Lib.hid hcv; have HO := Lib.hid hown; have HE := Lib.hid hE
    clear hcl hcv hown hE
    by_cases hlt : j < n
    · have hkl : j < l.length := by rw [HL.out]; exact hlt
      obtain ⟨s, hs⟩ : ∃ s, s = l[j].1 := ⟨_, rfl⟩
      obtain ⟨z, hzz⟩ : ∃ z, z = l[j].2 := ⟨_, rfl⟩
      have HZB := Lib.hid (show z.natAbs < B64 ^ 2 by rw [hzz]; exact HZ.out _ (List.getElem_mem hkl))
      obtain ⟨g, o, hA, hc⟩ := HP.out (by intro e; rw [e] at hkl; simp at hkl)
      subst hA
      obtain ⟨b, x0, x1, x2, x3, hd6, hdz, cs0, cs1, cs2, cs3, cs4, cs5⟩ := de_cells (de_get (w := wr) (s := s) (z := z) hkl (fun j hj i u hu => HE.out.cell' (hc j hj i u hu)) (by rw [hs, hzz]))
      have HS := Lib.hid (show l[j] = (s, z) by rw [hs, hzz])
      have HD6 := Lib.hid hd6; have HDZ := Lib.hid hdz
      obtain ⟨T, hT⟩ : ∃ T, T = totalP s k := ⟨_, rfl⟩
      have HTT := Lib.hid hT
      have HTA := Lib.hid (show T.natAbs < B64 ^ 2 by rw [hT]; exact HTB.out s)
      obtain ⟨tb, t0, t1, t2, t3, ht6, htz⟩ := de_names s T
      have HT6 := Lib.hid ht6; have HTZ := Lib.hid htz
      have HAM := Lib.hid (fun (W : World) (e : Ext w W) => sDeAmount B m d s k W HK.out hm (HB.out.ext e) HSO.out)
      rw [← hT, htz] at HAM
      have h4 : T.natAbs + z.natAbs < B64 ^ 4 := by have := HTA.out; have := HZB.out; have : B64 ^ 2 + B64 ^ 2 ≤ B64 ^ 4 := (by unfold B64; decide); omega
      have HMI := Lib.hid (fun W => sMinus T z W h4)
      obtain ⟨db, d0, d1, d2, d3, _, hdd⟩ := de_names s (T - z)
      have HSG := Lib.hid (fun W => sSign (T - z) W (by omega))
      rw [htz, hdz, hdd] at HMI
      rw [hdd] at HSG
      obtain ⟨sg, hsg⟩ : ∃ sg, sg = sgn (T - z) := ⟨_, rfl⟩
      rw [← hsg] at HSG
      have HSGN := Lib.hid hsg
      clear hs hzz hc hd6 hdz hT ht6 htz hdd hsg h4
      obtain ⟨W1, hW1⟩ : ∃ W1, W1 = wr.alloc (.cells #[.string s, .bool b, .int .u64 x0, .int .u64 x1, .int .u64 x2, .int .u64 x3] 46) := ⟨_, rfl⟩
      have K1 := Lib.hid (show Blk W1 wr.heap.size 46 [.string s, .bool b, .int .u64 x0, .int .u64 x1, .int .u64 x2, .int .u64 x3] by rw [hW1]; exact blk_new0 wr 46 [.string s, .bool b, .int .u64 x0, .int .u64 x1, .int .u64 x2, .int .u64 x3])
      have E1 := Lib.hid (show Ext wr W1 by rw [hW1]; exact ext1 _ _)
      have HW1 := Lib.hid hW1; clear hW1
      go_upto_region 5 with fail
      rw [← HW1.out]
      obtain ⟨a0, a1, a2, a3, a4, a5, la⟩ := six_cells K1.out
      clear cs0 cs1 cs2 cs3 cs4 cs5
      obtain ⟨q, hq⟩ : ∃ q, q = wr.heap.size := ⟨_, rfl⟩
      rw [← hq] at a0 a1 a2 a3 a4 a5 la K1 ⊢
      have HQ := Lib.hid hq; clear hq
      go_wp2_with (fail)
      go_at_call 32
      refine (HAM.out _ (HE.out.trans' E1.out)).mono ?_
      rintro e w2 ⟨rfl, hE⟩
      have E2 := Lib.hid (E1.out.trans' hE); have K2 := Lib.hid (K1.out.ext hE); clear hE a0 a1 a2 a3 a4 a5 la
      obtain ⟨W3, hW3⟩ : ∃ W3, W3 = w2.alloc (.cells #[.bool tb, .int .u64 t0, .int .u64 t1, .int .u64 t2, .int .u64 t3] 43) := ⟨_, rfl⟩
      have R3 := Lib.hid (show Blk W3 w2.heap.size 43 [.bool tb, .int .u64 t0, .int .u64 t1, .int .u64 t2, .int .u64 t3] by rw [hW3]; exact blk_new0 w2 43 [.bool tb, .int .u64 t0, .int .u64 t1, .int .u64 t2, .int .u64 t3])
      have K3 := Lib.hid (show Blk W3 q 46 [.string s, .bool b, .int .u64 x0, .int .u64 x1, .int .u64 x2, .int .u64 x3] by rw [hW3]; exact K2.out.alloc _)
      have E3 := Lib.hid (show Ext wr W3 by rw [hW3]; exact E2.out.trans' (ext1 _ _))
      have HW3 := Lib.hid hW3; clear hW3
      go_upto_region 6 with fail
      rw [← HW3.out]
      obtain ⟨a0, a1, a2, a3, a4, a5, la⟩ := six_cells K3.out
      obtain ⟨r0, r1, r2, r3, r4, lr⟩ := five_cells R3.out
      generalize w2.heap.size = p at *
      go_wp2_with (fail)
      go_at_call 27
      refine (HMI.out _).mono ?_
      rintro e w4 ⟨rfl, hE⟩
      have E4 := Lib.hid (E3.out.trans' hE); have K4 := Lib.hid (K3.out.ext hE); have R4 := Lib.hid (R3.out.ext hE); clear hE a0 a1 a2 a3 a4 a5 la r0 r1 r2 r3 r4 lr
      go_wp2_with (fail)
      go_at_call 26
      refine (HSG.out _).mono ?_
      rintro e w5 ⟨rfl, hE⟩
      have E5 := Lib.hid (E4.out.trans' hE); have K5 := Lib.hid (K4.out.ext hE); have R5 := Lib.hid (R4.out.ext hE); clear hE
      obtain ⟨a0, a1, a2, a3, a4, a5, la⟩ := six_cells K5.out
      obtain ⟨r0, r1, r2, r3, r4, lr⟩ := five_cells R5.out
      have f1 := K5.out.frozen 1; have f2 := K5.out.frozen 2; have f3 := K5.out.frozen 3; have f4 := K5.out.frozen 4; have f5 := K5.out.frozen 5
      by_cases htl : T < z
      · have hs0 : sg < 0 := by rw [HSGN.out]; exact bsgn_lt htl
        have HH := Lib.hid htl; clear htl
        go_upto_region 8 with fail
        obtain ⟨W6, hW6⟩ : ∃ W6, W6 = ((((w5.setCell ⟨q, 1, none⟩ (.bool tb)).setCell ⟨q, 2, none⟩ (.int .u64 t0)).setCell ⟨q, 3, none⟩ (.int .u64 t1)).setCell ⟨q, 4, none⟩ (.int .u64 t2)).setCell ⟨q, 5, none⟩ (.int .u64 t3) := ⟨_, rfl⟩
        have K6 := Lib.hid (show Blk W6 q 46 [.string s, .bool tb, .int .u64 t0, .int .u64 t1, .int .u64 t2, .int .u64 t3] by rw [hW6]; exact ((((K5.out.set_ 1 _).set_ 2 _).set_ 3 _).set_ 4 _).set_ 5 _)
        have E6 := Lib.hid (show Ext wr W6 by rw [hW6]; exact Only.ext E5.out (((((Only.refl _ _).set_ 1 _).set_ 2 _).set_ 3 _).set_ 4 _ |>.set_ 5 _) (by rw [HQ.out]; exact Nat.le_refl _))
        have HW6 := Lib.hid hW6; clear hW6
        rw [← HW6.out]
        clear a0 a1 a2 a3 a4 a5 la f1 f2 f3 f4 f5
        obtain ⟨a0, a1, a2, a3, a4, a5, la⟩ := six_cells K6.out
        go_wp2_with (first | (at_builtin; refine wpList_append_own_at _ rfl (.tmp 27) (.tmp 29) 29 rfl w.heap.size 46 i0 _ 6 56 Tryz.underlying29 hi hz0 hz1 hz2 rfl (by decide) u5 cs.length (flat6 cs) rfl (owns_ext (HO.out.ext E6.out) (ext1 _ _)) ⟨W6.heap.size, 0, none⟩ 1 1 [.string s, .bool tb, .int .u64 t0, .int .u64 t1, .int .u64 t2, .int .u64 t3] rfl rfl (cells_new _ _ _) (fun u hu => by rw [← HT6.out] at hu; exact dcell6_one _ u hu) (by have := HC.out; unfold maxLen; omega) (by have := HC.out; omega) (by have := HE.out.size; have := E6.out.size; simp; omega) ?_; intro v' w6 hown hgrow _ _; have R := Lib.hid (de_push (x := (s, T)) ((HO.out.ext E6.out).ext (ext1 _ _)) ((HE.out.trans' E6.out).trans' (ext1 _ _)) (by rw [HT6.out]; exact hown) hgrow); clear hown hgrow) | fail)
        go_roundw
        case rel => exact ⟨j + 1, cs ++ [(s, T)], by omega, by go_num, by simp [HC.out], by rw [HV.out, dboth_take hkl HS.out, ← HTT.out, if_pos HH.out], R.out.1, R.out.2⟩
        case measure => simp [intOf]; omega
      · have hs0 : ¬ sg < 0 := by rw [HSGN.out]; exact bsgn_ge htl
        have HH := Lib.hid htl; clear htl
        go_wp2_with (first | (at_builtin; refine wpList_append_own_at _ rfl (.tmp 27) (.tmp 29) 29 rfl w.heap.size 46 i0 _ 6 56 Tryz.underlying29 hi hz0 hz1 hz2 rfl (by decide) u5 cs.length (flat6 cs) rfl (owns_ext (HO.out.ext E5.out) (ext1 _ _)) ⟨w5.heap.size, 0, none⟩ 1 1 [.string s, .bool b, .int .u64 x0, .int .u64 x1, .int .u64 x2, .int .u64 x3] rfl rfl (cells_new _ _ _) (fun u hu => by rw [← HD6.out] at hu; exact dcell6_one _ u hu) (by have := HC.out; unfold maxLen; omega) (by have := HC.out; omega) (by have := HE.out.size; have := E5.out.size; simp; omega) ?_; intro v' w6 hown hgrow _ _; have R := Lib.hid (de_push (x := (s, z)) ((HO.out.ext E5.out).ext (ext1 _ _)) ((HE.out.trans' E5.out).trans' (ext1 _ _)) (by rw [HD6.out]; exact hown) hgrow); clear hown hgrow) | fail)
        go_roundw
        case rel => exact ⟨j + 1, cs ++ [(s, z)], by omega, by go_num, by simp [HC.out], by rw [HV.out, dboth_take hkl HS.out, if_neg (by rw [← HTT.out]; have := HH.out; omega)], R.out.1, R.out.2⟩
        case measure => simp [intOf]; omega
    · obtain rfl : j = n := by omega
      have hlen : cs.length = j := HC.out
      obtain ⟨A3, c3, hv3, hc3, hp3⟩ := de_slice (n := j) HO.out hlen
      subst hv3
      have HV2 := Lib.hid (show cs = dboth l k by rw [HV.out, List.take_of_length_le (by rw [HL.out]; exact Nat.le_refl _)])
      have HSM := Lib.hid (sSome A3 j c3 cs wr hlen (by omega) hp3 (fun x hx => by
        rw [HV2.out] at hx
        obtain ⟨y, hy, rfl⟩ := List.mem_map.1 hx
        dsimp only
        have h24 := b64_24
        split
        · exact Nat.lt_of_lt_of_le (HTB.out _) h24
        · exact Nat.lt_of_lt_of_le (HZ.out y hy) h24))
      rw [HV2.out] at HSM
      go_wp2_with (first | (go_at_call 43; refine HSM.out.mono ?_; rintro e w4 ⟨v4, rfl, ho4, hE4⟩; have HO4 := Lib.hid ho4; have HE4 := Lib.hid hE4; clear ho4 hE4) | fail)
      go_ret
      exact ⟨_, rfl, row_low HO4.out HE.out.size, HE.out.trans' HE4.out⟩
end Go.Proofs.YthnghknmgbimbaaGreatDoor

namespace Go.Proofs.YthnghknmgbimbaaGreatDoor
open Go Go.RowKit

set_option maxRecDepth 100000 in
set_option maxHeartbeats 1000000 in
theorem dMinDec (a b r : Nat) (y z : Int) (w : World) (hu : BigK w a y) (hv : BigK w b z) (hr : r = if y < z then a else b) :
    Calls Tryz.prog 114 #[.agg #[.pointer (some ⟨a, 0, none⟩)], .agg #[.pointer (some ⟨b, 0, none⟩)]] w (RetE (.agg #[.pointer (some ⟨r, 0, none⟩)]) w) := by
  obtain ⟨W, hW⟩ : ∃ W, W = ((w.alloc (decBox a)).alloc (decBox b)).alloc (.cells #[.pointer none] 91) := ⟨_, rfl⟩
  have K0 := Lib.hid (show Blk W w.heap.size 91 [.pointer (some ⟨a, 0, none⟩)] by rw [hW]; exact ((blk_new0 w 91 [.pointer (some ⟨a, 0, none⟩)]).alloc _).alloc _)
  have K1 := Lib.hid (show Blk W (w.heap.size + 1) 91 [.pointer (some ⟨b, 0, none⟩)] by rw [hW]; exact (blk_new1 w (decBox a) 91 [.pointer (some ⟨b, 0, none⟩)]).alloc _)
  have K2 := Lib.hid (show Blk W (w.heap.size + 2) 91 [.pointer none] by rw [hW]; exact blk_new2 w _ _ 91 [.pointer none])
  have EW := Lib.hid (show Ext w W by rw [hW]; exact ext3 _ _ _ _)
  have HWW := Lib.hid hW; clear hW
  have H := Lib.hid (dLT a b y z W (hu.ext EW.out) (hv.ext EW.out))
  have HR := Lib.hid hr
  clear hu hv hr
  have a0 : W.cell? ⟨w.heap.size, 0, none⟩ = some (.pointer (some ⟨a, 0, none⟩)) := (K0.out.cell 0).trans rfl
  have a1 : W.cell? ⟨w.heap.size + 1, 0, none⟩ = some (.pointer (some ⟨b, 0, none⟩)) := (K1.out.cell 0).trans rfl
  go_enter Tryz.func114, Tryz.ntmps114
  go_upto_region 1 with fail
  rw [← HWW.out]
  go_wp2_with (fail)
  go_at_call 105
  refine H.out.mono ?_
  rintro e w1 ⟨rfl, hE⟩
  have HE := Lib.hid hE; have J0 := K0.out.ext hE; have J1 := K1.out.ext hE; have KR := Lib.hid (K2.out.ext hE)
  clear hE a0 a1 H
  have a0 : w1.cell? ⟨w.heap.size, 0, none⟩ = some (.pointer (some ⟨a, 0, none⟩)) := (J0.cell 0).trans rfl
  have a1 : w1.cell? ⟨w.heap.size + 1, 0, none⟩ = some (.pointer (some ⟨b, 0, none⟩)) := (J1.cell 0).trans rfl
  have z0 : w1.cell? ⟨w.heap.size + 2, 0, none⟩ = some (.pointer none) := (KR.out.cell 0).trans rfl
  have f0 := KR.out.frozen 0
  have lz := cell_lt z0
  clear J0 J1
  by_cases h : y < z
  · have hr := HR.out
    rw [if_pos h] at hr; subst hr; clear HR
    have d1 : decide (y < z) = true := decide_eq_true h
    go_wp2
    exact bodyPost_ret (v := .agg #[.pointer (some ⟨r, 0, none⟩)]) (by simp [results, Tryz.results114, go_sem, z0]) rfl ⟨rfl, Only.ext (EW.out.trans' HE.out) ((Only.refl _ _).set_ 0 _) (by omega)⟩
  · have hr := HR.out
    rw [if_neg h] at hr; subst hr; clear HR
    have d1 : decide (y < z) = false := decide_eq_false h
    go_wp2
    exact bodyPost_ret (v := .agg #[.pointer (some ⟨r, 0, none⟩)]) (by simp [results, Tryz.results114, go_sem, z0]) rfl ⟨rfl, Only.ext (EW.out.trans' HE.out) ((Only.refl _ _).set_ 0 _) (by omega)⟩

/-- A new variable that holds a decimal coin. -/
def IBox (s : ByteArray) (z : Int) (W : World) (u : Value) (wx : World) : Prop := ∃ p r, u = .pointer (some ⟨p, 0, none⟩) ∧ Blk wx p 93 [.string s, .pointer (some ⟨r, 0, none⟩)] ∧ BigK wx r z ∧ Ext W wx
theorem iBox_n {W w2 : World} {r : Nat} {z : Int} (s : ByteArray) (hB : BigK w2 r z) (hE : Ext W w2) : IBox s z W (.pointer (some ⟨w2.heap.size, 0, none⟩)) (w2.alloc (dcoinCells s r)) :=
  ⟨_, r, rfl, blk_new0 w2 _ [.string s, .pointer (some ⟨r, 0, none⟩)], hB.ext (ext1 _ _), hE.trans' (ext1 _ _)⟩
theorem iBox_o {W w2 : World} {r p : Nat} {c d : Value} {z : Int} (s : ByteArray) (hK : Blk w2 p 93 [c, d]) (hp : W.heap.size ≤ p) (hB : BigK w2 r z) (hE : Ext W w2) : IBox s z W (.pointer (some ⟨p, 0, none⟩)) ((w2.setCell ⟨p, 0, none⟩ (.string s)).setCell ⟨p, 1, none⟩ (.pointer (some ⟨r, 0, none⟩))) :=
  ⟨_, r, rfl, dblk_two hK, dbig_two hB hK, dext_two hE hp⟩
theorem dcG0 (W : World) : Ext W W.drew := Ext.drewN' _ 1
theorem dcG1 (W : World) : Ext W (W.alloc dcoinZero).drew := (ext1 _ _).trans' (Ext.drewN' _ 1)
theorem dcG2 (W : World) : Ext W W := Ext.refl _
theorem dcG3 (W : World) : Ext W (W.alloc dcoinZero) := ext1 _ _
/-- The coin that the region reads. -/
def DI2 (p : Nat) (s : ByteArray) (b : Nat) (w' : World) : Prop := w'.cell? ⟨p, 0, none⟩ = some (.string s) ∧ w'.cell? ⟨p, 1, none⟩ = some (.pointer (some ⟨b, 0, none⟩))
theorem DI2.ext {p b : Nat} {s : ByteArray} {w w' : World} (h : DI2 p s b w) (e : Ext w w') : DI2 p s b w' := ⟨e.cell' h.1, e.cell' h.2⟩
theorem DI2.drew {p b : Nat} {s : ByteArray} {w : World} (h : DI2 p s b w) : DI2 p s b w.drew := h
theorem DI2.alloc {p b : Nat} {s : ByteArray} {w : World} (h : DI2 p s b w) (o : Obj) : DI2 p s b (w.alloc o) := h.ext (Ext.alloc' _ _)
theorem DI2.set2 {p b g : Nat} {s : ByteArray} {w : World} {u v : Value} (h : DI2 p s b w) (h1 : p ≠ g) : DI2 p s b ((w.setCell ⟨g, 0, none⟩ u).setCell ⟨g, 1, none⟩ v) := ⟨set_far (set_far h.1 h1) h1, set_far (set_far h.2 h1) h1⟩
theorem row_made {w : World} {base g n : Nat} {E : TypeId} {xs : List Value} (h : w.ownsRow base E 2 (.slice (some ⟨g, 0, none⟩) n n) n xs) : ∃ cur : List Value, Blk w g E cur ∧ cur.length = n * 2 := by
  rcases h.2 with ⟨hv, _⟩ | ⟨g', cap, cur, hv, _, hh, _, _, hs, _⟩
  · injection hv with h1; cases h1
  · injection hv with h1 h2 h3
    injection h1 with h1; injection h1 with h1
    subst h1; subst h3
    exact ⟨cur.toList, by unfold Blk; simpa using hh, by simpa using hs⟩
theorem take_set2 {cur xs : List Value} {k : Nat} (u v : Value) (h : cur.take (k * 2) = xs) (hk : k * 2 + 1 < cur.length) : ((cur.set (k * 2) u).set (k * 2 + 1) v).take ((k + 1) * 2) = xs ++ [u, v] := by
  subst h
  apply List.ext_getElem?
  intro i
  by_cases h1 : i < k * 2
  · rw [List.getElem?_append_left (by simp; omega), List.getElem?_take, if_pos (by omega), List.getElem?_set_ne (by omega), List.getElem?_set_ne (by omega), List.getElem?_take, if_pos h1]
  · rw [List.getElem?_append_right (by simp; omega), List.length_take, Nat.min_eq_left (by omega), List.getElem?_take]
    rcases (by omega : i = k * 2 ∨ i = k * 2 + 1 ∨ k * 2 + 2 ≤ i) with rfl | rfl | h2
    · rw [if_pos (by omega), List.getElem?_set_ne (by omega), List.getElem?_set_self (by omega), Nat.sub_self]; rfl
    · rw [if_pos (by omega), List.getElem?_set_self (by simp; omega), show k * 2 + 1 - k * 2 = 1 by omega]; rfl
    · rw [if_neg (by omega), List.getElem?_eq_none (by simp; omega)]
theorem rec_of_blk {w : World} {g : Nat} {E : TypeId} {cur : List Value} {cs : List Co} (hb : Blk w g E cur) (ht : cur.take (cs.length * 2) = flat2 (cs.map Co.pair)) : RecAt w (some ⟨g, 0, none⟩) (cs.map Co.pair) := fun _ => by
  refine ⟨g, 0, rfl, fun j hj => ?_⟩
  have hj' : j < cs.length := by simpa using hj
  obtain ⟨h1, h2⟩ := flat2_get (cs.map Co.pair) j hj
  rw [← ht, List.getElem?_take, if_pos (by omega)] at h1 h2
  exact ⟨by rw [hb.cell, Nat.zero_add]; exact h1, by rw [hb.cell, Nat.zero_add]; exact h2⟩
theorem dMinDec' (a b : Nat) (y z : Int) (w : World) (hu : BigK w a y) (hv : BigK w b z) :
    Calls Tryz.prog 114 #[.agg #[.pointer (some ⟨a, 0, none⟩)], .agg #[.pointer (some ⟨b, 0, none⟩)]] w (RetAmt (if z < y then z else y) w) := by
  refine (dMinDec a b _ y z w hu hv rfl).mono fun e w' ⟨he, hE⟩ => ⟨_, he, ?_, hE⟩
  by_cases h : y < z
  · rw [if_pos h, if_neg (by omega)]; exact hu.ext hE
  · rw [if_neg h]
    by_cases h2 : z < y
    · rw [if_pos h2]; exact hv.ext hE
    · rw [if_neg h2, show y = z by omega]; exact hv.ext hE

set_option maxRecDepth 100000 in
set_option maxHeartbeats 4000000 in
theorem tdIntersect (A B : Option Addr) (n c m d : Nat) (l k : List Co) (w : World) (hl : l.length = n) (hk : k.length = m) (hn : n ≤ 100000) (hm : m ≤ 100000) (hmd : m ≤ d) (hA : DCoinsAt w A l) (hB : DCoinsAt w B k) (hs : AscP (k.map Co.val)) :
    Calls Tryz.prog 73 #[.slice A n c, .slice B m d] w (RetDCoins (vnz (dboth (l.map Co.val) (k.map Co.val))) w) := by
  obtain ⟨i0, hi, hz0, hz1, hz2⟩ := info_parts infoDCoin
  have HL := Lib.hid hl; have HK := Lib.hid hk; have HP := Lib.hid hA; have HB := Lib.hid hB; have HSO := Lib.hid hs
  clear hl hk hA hB hs
  go_enter Tryz.func73, Tryz.ntmps73
  go_wp2_with (first | (at_make; refine wpList_make_full _ rfl _ _ 84 rfl w.heap.size 93 i0 _ 2 Tryz.underlying84 hi hz0 hz1 .i64 .i64 (n : Int) (n : Int) n rfl rfl rfl rfl (by rw [hz2]; omega) (by unfold maxLen; omega) (Nat.le_refl _) ?_; intro w0 hown0 hg0; obtain ⟨cur0, hb0, hl0⟩ := row_made hown0; have HB0 := Lib.hid hb0; have HL0 := Lib.hid hl0; have HE0 := Lib.hid (dext_none hg0); clear hown0 hg0 hb0 hl0) | fail)
  obtain ⟨g0, hg0⟩ : ∃ g0, g0 = w.heap.size := ⟨_, rfl⟩
  rw [← hg0] at HB0 ⊢
  have HG0 := Lib.hid hg0; clear hg0
  go_loopw [14] (fun i wr => ∃ (j : Nat) (cs : List Co) (cur : List Value), j ≤ n ∧ i = .int .i64 j ∧ cs.length = j ∧ cs.map Co.val = dboth ((l.map Co.val).take j) (k.map Co.val) ∧ Blk wr g0 93 cur ∧ cur.length = n * 2 ∧ cur.take (cs.length * 2) = flat2 (cs.map Co.pair) ∧ DBigs wr cs ∧ Ext w wr) (fun i _ => n - (intOf i).toNat)
  case atStart => exact ⟨0, [], cur0, Nat.zero_le _, rfl, rfl, rfl, HB0.out, HL0.out, by simp [flat2], (fun _ h => nomatch h), HE0.out⟩
  case round =>
    obtain ⟨j, cs, cur, hj, rfl, hcl, hcv, hbk, hcu, hct, hbs, hE⟩ := hrel
    have HC := Lib.hid hcl; have HV := Lib.hid hcv; have HBK := Lib.hid hbk; have HCU := Lib.hid hcu; have HCT := Lib.hid hct; have HBS := Lib.hid hbs; have HE := Lib.hid hE
    clear hcl hcv hbk hcu hct hbs hE
    by_cases hlt : j < n
    · have hkl : j < l.length := by rw [HL.out]; exact hlt
      obtain ⟨s, hs⟩ : ∃ s, s = l[j].s := ⟨_, rfl⟩
      obtain ⟨b, hb⟩ : ∃ b, b = l[j].b := ⟨_, rfl⟩
      obtain ⟨z, hzz⟩ : ∃ z, z = l[j].z := ⟨_, rfl⟩
      obtain ⟨g, o, hA, hc⟩ := HP.out.1 (by intro e; have := congrArg List.length e; simp at this; rw [this] at hkl; simp at hkl)
      subst hA
      have hck := hc j (by simpa using hkl)
      have cs0 : wr.cell? ⟨g, o + j * 2, none⟩ = some (.string s) := HE.out.cell' (by rw [hck.1, hs]; simp [Co.pair])
      have cs1 : wr.cell? ⟨g, o + j * 2 + 1, none⟩ = some (.pointer (some ⟨b, 0, none⟩)) := HE.out.cell' (by rw [hck.2, hb]; simp [Co.pair])
      have HBB := Lib.hid (show BigK wr b z by rw [hb, hzz]; exact (HP.out.2 _ (List.getElem_mem hkl)).ext HE.out)
      have HX := Lib.hid (show (l.map Co.val)[j]'(by simpa using hkl) = (s, z) by simp [Co.val, hs, hzz])
      clear hs hb hzz hck hc
      obtain ⟨T, hT⟩ : ∃ T, T = totalP s (k.map Co.val) := ⟨_, rfl⟩
      have HTT := Lib.hid hT; clear hT
      obtain ⟨W, hW⟩ : ∃ W, W = wr.alloc (dcBox s b) := ⟨_, rfl⟩
      have K1 := Lib.hid (show Blk W wr.heap.size 93 [.string s, .pointer (some ⟨b, 0, none⟩)] by rw [hW]; exact blk_new0 wr 93 [.string s, .pointer (some ⟨b, 0, none⟩)])
      have E1 := Lib.hid (show Ext wr W by rw [hW]; exact ext1 _ _)
      have HW1 := Lib.hid hW; clear hW
      have HAM := Lib.hid (fun (V : World) (e : Ext W V) => tdAmountOf s (m + 1) B m d k V HK.out (by omega) hm hmd (HB.out.ext ((HE.out.trans' E1.out).trans' e)) HSO.out)
      rw [← HTT.out] at HAM
      have HMIN := Lib.hid (fun (r1 : Nat) (w1 : World) (e1 : Ext W w1) (h1 : BigK w1 r1 T) (V : World) (e : Ext w1 V) => dMinDec' b r1 z T V (HBB.out.ext ((E1.out.trans' e1).trans' e)) (h1.ext e))
      go_upto_region 5 with fail
      rw [← HW1.out]
      obtain ⟨q, hq⟩ : ∃ q, q = wr.heap.size := ⟨_, rfl⟩
      rw [← hq] at K1 ⊢
      have HQ := Lib.hid hq; clear hq
      have c0 : W.cell? ⟨q, 0, none⟩ = some (.string s) := (K1.out.cell 0).trans rfl
      have c1 : W.cell? ⟨q, 1, none⟩ = some (.pointer (some ⟨b, 0, none⟩)) := (K1.out.cell 1).trans rfl
      have lq := cell_lt c0
      have KS0 := Lib.hid (show DI2 q s b W from ⟨c0, c1⟩)
      have KS0d := Lib.hid (show DI2 q s b W.drew from KS0.out)
      clear cs0 cs1
      go_cut [8] (fun s8 wx => IBox s (if T < z then T else z) W s8 wx)
      case first =>
        go_region_held3 (fun w' => w'.cell? ⟨q, 0, none⟩ = some (.string s) ∧ w'.cell? ⟨q, 1, none⟩ = some (.pointer (some ⟨b, 0, none⟩))) ((show DI2 q s b _; (repeat (first | (with_reducible refine DI2.drew ?_) | (with_reducible refine DI2.alloc ?_ _) | (with_reducible refine DI2.set2 ?_ ?_; rotate_left; omega))); with_reducible first | exact KS2.out | exact KS1.out | exact KS0d.out | exact KS0.out)) (first | (go_at_call 68; (with_reducible refine (HAM.out _ (by with_reducible first | exact dcG0 _ | exact dcG1 _)).mono ?_); rintro e w1 ⟨r1, rfl, hB, hE⟩; have HB1 := Lib.hid hB; have HE1 := Lib.hid (show Ext W w1 by with_reducible first | exact dcoinE0 hE | exact dcoinE1 hE); have KS1 := Lib.hid (KS0.out.ext HE1.out); have sz1 := HE1.out.size; (try ((with_reducible have KA := Lib.hid (dcoinM1 hE)); have lA := KA.out.lt; have pA : ¬ W.heap.size = w1.heap.size := (by omega); have pA' : ¬ w1.heap.size = W.heap.size := (by omega))); clear hE hB c0 c1) | (go_at_call 114; (with_reducible refine (HMIN.out r1 w1 HE1.out HB1.out _ (by with_reducible first | exact dcG2 _ | exact dcG3 _)).mono ?_); rintro e w2 ⟨r2, rfl, hB, hE⟩; have HB2 := Lib.hid hB; have HE12 := Lib.hid (show Ext w1 w2 by with_reducible first | exact hE | exact dcoinF1 hE); have HE2 := Lib.hid (HE1.out.trans' HE12.out); have KS2 := Lib.hid (KS1.out.ext HE12.out); have sz2 := HE12.out.size; (try (have K5 := Lib.hid (KA.out.ext HE12.out); have l5 := K5.out.lt; have q5 : w2.cell? ⟨W.heap.size, 0, none⟩ = some (.string ⟨#[]⟩) := (K5.out.cell 0).trans rfl; have r5 : w2.cell? ⟨W.heap.size, 1, none⟩ = some (.pointer none) := (K5.out.cell 1).trans rfl; have f5 := K5.out.frozen 0; have g5 := K5.out.frozen 1)); (try ((with_reducible have K7 := Lib.hid (dcoinN1 hE)); have l7 := K7.out.lt; have q7 : w2.cell? ⟨w1.heap.size, 0, none⟩ = some (.string ⟨#[]⟩) := (K7.out.cell 0).trans rfl; have r7 : w2.cell? ⟨w1.heap.size, 1, none⟩ = some (.pointer none) := (K7.out.cell 1).trans rfl; have f7 := K7.out.frozen 0; have g7 := K7.out.frozen 1)); clear hE hB))
        all_goals (go_wp2_with fail; go_meet)
        all_goals first | with_reducible exact iBox_n _ HB2.out HE2.out | with_reducible exact iBox_o _ K5.out (by omega) HB2.out HE2.out | with_reducible exact iBox_o _ K7.out (by omega) HB2.out HE2.out
      case rest =>
        obtain ⟨p, r, rfl, hP, hR, hX⟩ := hcut
        have HEX := Lib.hid (E1.out.trans' hX)
        have KB := Lib.hid (HBK.out.ext HEX.out)
        have HR := Lib.hid hR
        have c0 : wc.cell? ⟨p, 0, none⟩ = some (.string s) := (hP.cell 0).trans rfl
        have c1 : wc.cell? ⟨p, 1, none⟩ = some (.pointer (some ⟨r, 0, none⟩)) := (hP.cell 1).trans rfl
        have lp := cell_lt c0
        have hcl2 : j * 2 + 1 < cur.length := by rw [HCU.out]; omega
        obtain ⟨o0, h0⟩ : ∃ v, wc.cell? ⟨g0, j * 2, none⟩ = some v := ⟨_, (KB.out.cell _).trans (List.getElem?_eq_getElem (by omega))⟩
        obtain ⟨o1, h1⟩ : ∃ v, wc.cell? ⟨g0, j * 2 + 1, none⟩ = some v := ⟨_, (KB.out.cell _).trans (List.getElem?_eq_getElem (by omega))⟩
        have f0 := KB.out.frozen (j * 2); have f1 := KB.out.frozen (j * 2 + 1)
        have lg := KB.out.lt
        have b0 : (0 : Int) ≤ (j : Int) := by omega
        have b1 : (j : Int) < (n : Int) := by omega
        have HCL2 := Lib.hid hcl2
        clear hP hR hX hcl2
        go_wp2
        go_roundw
        case rel =>
          have hj2 : cs.length = j := HC.out
          refine ⟨j + 1, cs ++ [⟨s, r, if T < z then T else z⟩], _, by omega, by go_num, by simp [hj2], ?_, (KB.out.set_ _ _).set_ _ _, by rw [List.length_set, List.length_set]; exact HCU.out, ?_, ?_, Only.ext (HE.out.trans' HEX.out) (((Only.refl _ _).set_ _ _).set_ _ _) (by have := HG0.out; omega)⟩
          · rw [List.map_append, HV.out, dboth_take (by simpa using hkl) HX.out, ← HTT.out]; rfl
          · have ht := HCT.out
            rw [hj2] at ht
            rw [List.length_append, List.length_singleton, hj2, take_set2 _ _ ht HCL2.out, List.map_append, flat2_append]; rfl
          · intro x hx
            rcases List.mem_append.1 hx with hx | hx
            · exact (((HBS.out x hx).ext HEX.out).set_ KB.out _ _).set_ (KB.out.set_ _ _) _ _
            · rw [List.mem_singleton] at hx; subst hx
              exact (HR.out.set_ KB.out _ _).set_ (KB.out.set_ _ _) _ _
        case measure => simp [intOf]; omega
    · obtain rfl : j = n := by omega
      have hj2 : cs.length = j := HC.out
      have HV2 := Lib.hid (show cs.map Co.val = dboth (l.map Co.val) (k.map Co.val) by rw [HV.out, List.take_of_length_le (by simp [HL.out])])
      have HRZ := Lib.hid (tdRemoveZero (some ⟨g0, 0, none⟩) j j cs wr hj2 (by omega) ⟨rec_of_blk HBK.out HCT.out, HBS.out⟩)
      go_wp2_with (first | (go_at_call 115; refine HRZ.out.mono ?_; rintro e w4 ⟨v4, rfl, ho4, hE4⟩; have HO4 := Lib.hid ho4; have HE4 := Lib.hid hE4; clear ho4 hE4) | fail)
      go_ret
      exact ⟨_, dnz cs, rfl, by rw [← HV2.out]; unfold dnz vnz; rw [List.filter_map]; rfl, HO4.out.low HE.out.size, HE.out.trans' HE4.out⟩

/-- The less of two plain lists, name by name. -/
def dcap (la lb : List DP) : List (ByteArray × Int) := vnz (dboth (la.map dval) (lb.map dval))
set_option maxRecDepth 100000 in
set_option maxHeartbeats 2000000 in
theorem iDecIntersect (A B : Option Addr) (n c m d : Nat) (la lb : List DP) (w : World) (hla : la.length = n) (hlb : lb.length = m) (hn : n ≤ 40000) (hm : m ≤ 40000) (hA : DPlainAt w A la) (hB : DPlainAt w B lb)
    (hza : ∀ x ∈ la, DecB x.2.1 x.2.2) (hzb : ∀ x ∈ lb, DecB x.2.1 x.2.2) (hsb : AscP (lb.map dval)) (hT : Thr w) (hs : ∀ x ∈ dcap la lb, FitT x.2) (hlen : (dcap la lb).length ≤ 100000) :
    Calls Tryz.prog 37 #[.slice A n c, .slice B m d] w (RetDBack ((dcap la lb).map dback) w) := by
  have H1 := Lib.hid (iDecCoins A n c la w hla (by omega) hA hza hT)
  have H2 := Lib.hid (fun (W : World) (e : Ext w W) => iDecCoins B m d lb W hlb (by omega) (hB.ext e) hzb (hT.ext e))
  have H3 := Lib.hid (fun (W : World) (e : Ext w W) (A1 B1 : Option Addr) (c1 d1 : Nat) (ca cb : List Co) (va : ca.map Co.val = la.map dval) (vb : cb.map Co.val = lb.map dval) (h1 : m ≤ d1) (k1 : DCoinsAt W A1 ca) (k2 : DCoinsAt W B1 cb) =>
    show Calls Tryz.prog 73 #[.slice A1 n c1, .slice B1 m d1] W (RetDCoins (dcap la lb) W) by
      unfold dcap
      rw [← va, ← vb]
      exact tdIntersect A1 B1 n c1 m d1 ca cb W ((val_len va).trans hla) ((val_len vb).trans hlb) (by omega) (by omega) h1 k1 k2 (by rw [vb]; exact hsb))
  have HLEN := Lib.hid hlen
  obtain ⟨L, hL⟩ : ∃ L, L = dcap la lb := ⟨_, rfl⟩
  rw [← hL] at H3 HLEN hs
  rw [← hL]
  have HS := Lib.hid hs
  have HLA := Lib.hid hla; have HLB := Lib.hid hlb
  clear hla hlb hA hB hza hzb hT hs hL hlen hsb
  go_enter Tryz.func37, Tryz.ntmps37
  go_wp2_with (fail)
  go_at_call 59
  refine H1.out.mono ?_
  rintro e w1 ⟨v1, ca, rfl, va, oa, hE1⟩
  obtain ⟨A1, c1, rfl, hc1⟩ := down_cap oa.1
  have la1 := (val_len va).trans HLA.out
  rw [la1] at hc1 ⊢
  have KA := Lib.hid (show DCoinsAt w1 A1 ca from dcoinsAt_own oa rfl)
  have VA := Lib.hid va; have HE1 := Lib.hid hE1
  clear va oa hE1 hc1 la1
  go_wp2_with (fail)
  go_at_call 59
  refine (H2.out _ HE1.out).mono ?_
  rintro e w2 ⟨v2, cb, rfl, vb, ob, hE2⟩
  obtain ⟨B1, d1, rfl, hd1⟩ := down_cap ob.1
  have lb1 := (val_len vb).trans HLB.out
  rw [lb1] at hd1 ⊢
  have KB := Lib.hid (show DCoinsAt w2 B1 cb from dcoinsAt_own ob rfl)
  have VB := Lib.hid vb; have HE2 := Lib.hid (HE1.out.trans' hE2); have KA2 := Lib.hid (KA.out.ext hE2); have HD1 := Lib.hid hd1
  clear vb ob hE2 hd1 lb1
  go_wp2_with (fail)
  go_at_call 73
  refine (H3.out _ HE2.out A1 B1 c1 d1 ca cb VA.out VB.out HD1.out KA2.out KB.out).mono ?_
  rintro e w3 ⟨v3, cs, rfl, vs, os, hE3⟩
  obtain ⟨A3, c3, rfl, hc3⟩ := down_cap os.1
  have KS := Lib.hid (show DCoinsAt w3 A3 cs from dcoinsAt_own os rfl)
  have VS := Lib.hid vs; have HE3 := Lib.hid (HE2.out.trans' hE3)
  have HL3 := Lib.hid (show cs.length ≤ 1000000 by
    have h9 := congrArg List.length VS.out
    rw [List.length_map] at h9
    have := HLEN.out; omega)
  have HZ3 := Lib.hid (show ∀ x ∈ cs, FitT x.z by
    intro x hx
    exact HS.out x.val (by rw [← VS.out]; exact List.mem_map_of_mem hx))
  have HBK := Lib.hid (iBackDecs A3 cs.length c3 cs w3 rfl HL3.out KS.out HZ3.out)
  rw [show (cs.map fun x => dback x.val) = L.map dback by rw [← VS.out, List.map_map]; rfl] at HBK
  clear vs os hE3 hc3
  go_wp2_with (fail)
  go_at_call 58
  refine HBK.out.mono ?_
  rintro e w4 ⟨v4, rfl, ho, hE4⟩
  have HO := Lib.hid ho; have HE4 := Lib.hid (HE3.out.trans' hE4)
  clear ho hE4
  go_wp2
  go_ret2
  exact ⟨v4, rfl, HO.out.low HE3.out.size, HE4.out⟩
end Go.Proofs.YthnghknmgbimbaaGreatDoor
