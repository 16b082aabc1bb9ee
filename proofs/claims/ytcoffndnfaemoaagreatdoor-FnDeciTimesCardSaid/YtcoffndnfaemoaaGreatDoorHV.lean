/-
  DecCoins' MulDec and MulDecTruncate: each amount times a decimal, those of 0 left out.
  impl.DecMul: plain data if all whole parts are int64s, told as failed otherwise.
-/
import Derived.Test.YtcoffndnfaemoaaGreatDoorHC
import Derived.Test.YtcoffndnfaemoaaGreatDoorHS
import Derived.Test.YtcoffndnfaemoaaGreatDoorHT
import Derived.Test.YtcoffndnfaemoaaGreatDoorHR
namespace Go.Proofs.YtcoffndnfaemoaaGreatDoor
open Go Go.RowKit

theorem dmrg_snoc {s : ByteArray} {z : Int} (hz : z ≠ 0) : ∀ L : List (ByteArray × Int), (∀ x ∈ L, keyLt x.1 s = true ∧ x.2 ≠ 0) → dmrg L [(s, z)] = L ++ [(s, z)]
  | [], _ => by rw [dmrg_nil']; simp [vnz, hz]
  | x :: L, h => by
    have h1 := h x List.mem_cons_self
    rw [dmrg_cons, if_pos h1.1, dmrg_snoc hz L (fun y hy => h y (List.mem_cons_of_mem _ hy))]
    simp [vnz, h1.2]
theorem ascP_lt {l : List (ByteArray × Int)} (h : AscP l) {i j : Nat} (hij : i < j) (hj : j < l.length) : keyLt l[i].1 l[j].1 = true := List.pairwise_iff_getElem.1 h i j (by omega) hj hij
theorem rnd_cutZ (z : Int) : rnd z = cutZ false z := rnd_cut z
theorem tdiv_cutZ (z : Int) : Int.tdiv z T18 = cutZ true z := tdiv_cut z
theorem inR_cut (t : Bool) {y z : Int} (hy : y.natAbs < B64 ^ 2) (hz : z.natAbs < B64 ^ 2) : Small y ∧ Small z ∧ Small (y * z) ∧ InR (cutZ t (y * z)) ∧ Small (cutZ t (y * z)) := by
  have h1 : B64 ^ 2 ≤ B64 ^ 30 := Nat.pow_le_pow_right B64_pos (by omega)
  have h2 : B64 ^ 4 ≤ B64 ^ 30 := Nat.pow_le_pow_right B64_pos (by omega)
  have h3 := pow24 hy hz
  rw [← Int.natAbs_mul] at h3
  have h4 := cutZ_abs t hy hz
  have h5 : (B64 ^ 4 : Nat) = 115792089237316195423570985008687907853269984665640564039457584007913129639936 := by unfold B64; decide
  refine ⟨by unfold Small; omega, by unfold Small; omega, by unfold Small; omega, ?_, by unfold Small; omega⟩
  unfold InR UPL T18
  omega
def DI3 (p : Nat) (s : ByteArray) (b q x : Nat) (w' : World) : Prop := w'.cell? ⟨p, 0, none⟩ = some (.string s) ∧ w'.cell? ⟨p, 1, none⟩ = some (.pointer (some ⟨b, 0, none⟩)) ∧ w'.cell? ⟨q, 0, none⟩ = some (.pointer (some ⟨x, 0, none⟩))
theorem DI3.ext {p b q x : Nat} {s : ByteArray} {w w' : World} (h : DI3 p s b q x w) (e : Ext w w') : DI3 p s b q x w' := ⟨e.cell' h.1, e.cell' h.2.1, e.cell' h.2.2⟩
theorem DI3.drew {p b q x : Nat} {s : ByteArray} {w : World} (h : DI3 p s b q x w) : DI3 p s b q x w.drew := h
theorem DI3.alloc {p b q x : Nat} {s : ByteArray} {w : World} (h : DI3 p s b q x w) (o : Obj) : DI3 p s b q x (w.alloc o) := h.ext (Ext.alloc' _ _)
theorem DI3.set2 {p b q x g : Nat} {s : ByteArray} {w : World} {u v : Value} (h : DI3 p s b q x w) (h1 : p ≠ g) (h2 : q ≠ g) : DI3 p s b q x ((w.setCell ⟨g, 0, none⟩ u).setCell ⟨g, 1, none⟩ v) := ⟨set_far (set_far h.1 h1) h1, set_far (set_far h.2.1 h1) h1, set_far (set_far h.2.2 h2) h2⟩

set_option maxRecDepth 100000 in
set_option maxHeartbeats 4000000 in
theorem tdMulDec (A : Option Addr) (n c x : Nat) (u : Int) (l : List Co) (w : World) (hl : l.length = n) (hn : n ≤ 10000) (hA : DCoinsAt w A l) (hd : BigK w x u) (hu : u.natAbs < B64 ^ 2) (hz : ∀ y ∈ l, y.z.natAbs < B64 ^ 2) (hs : AscP (l.map Co.val)) (hT : Thr w) :
    Calls Tryz.prog 50 #[.slice A n c, .agg #[.pointer (some ⟨x, 0, none⟩)]] w (RetDCoins (vnz (dtimes false u (l.map Co.val))) w) := by
  obtain ⟨V, hV⟩ : ∃ V, V = w.alloc (decBox x) := ⟨_, rfl⟩
  have KD := Lib.hid (show Blk V w.heap.size 84 [.pointer (some ⟨x, 0, none⟩)] by rw [hV]; exact blk_new0 w 84 [.pointer (some ⟨x, 0, none⟩)])
  have EV := Lib.hid (show Ext w V by rw [hV]; exact ext1 _ _)
  have HVV := Lib.hid hV
  have HL := Lib.hid hl; have HP := Lib.hid hA; have HZ := Lib.hid hz; have HU := Lib.hid hu; have HD := Lib.hid hd; have HSO := Lib.hid hs; have TT := Lib.hid hT
  skip
  have hd0 : V.cell? ⟨w.heap.size, 0, none⟩ = some (.pointer (some ⟨x, 0, none⟩)) := (KD.out.cell 0).trans rfl
  have hdl := cell_lt hd0
  clear hl hA hz hu hd hs hT hV
  go_enter Tryz.func50, Tryz.ntmps50
  go_wp2
  rw [← HVV.out]
  obtain ⟨w9, hw9⟩ : ∃ X, X = V := ⟨_, rfl⟩
  have EV9 := Lib.hid (show Ext V w9 by rw [hw9]; exact Ext.refl _)
  rw [← hw9]
  clear hw9
  clear hd0 hdl
  go_loopw [5, 11] (fun v i wr => ∃ (j : Nat) (cs : List Co), j ≤ n ∧ i = .int .i64 j ∧ cs.map Co.val = vnz (dtimes false u ((l.map Co.val).take j)) ∧ cs.length ≤ j ∧ DCoinsOwn wr w.heap.size v cs ∧ Ext V wr) (fun _ i _ => n - (intOf i).toNat)
  case atStart => exact ⟨0, [], Nat.zero_le _, rfl, rfl, Nat.le_refl _, ⟨World.ownsRow_nil _ _ _ _, fun _ h => nomatch h⟩, EV9.out⟩
  case round =>
    obtain ⟨j, cs, hj, rfl, hcv, hcl, hown, hE⟩ := hrel
    obtain ⟨A3, c3, rfl, hc3⟩ := down_cap hown.1
    have HC3 := Lib.hid hc3
    have HV := Lib.hid hcv; have HCL := Lib.hid hcl; have HO := Lib.hid hown; have HE := Lib.hid hE
    have HEW := Lib.hid (EV.out.trans' hE)
    clear hcv hcl hown hE hc3
    by_cases hlt : j < n
    · have hkl : j < l.length := by rw [HL.out]; exact hlt
      obtain ⟨s, hs⟩ : ∃ s, s = l[j].s := ⟨_, rfl⟩
      obtain ⟨b, hb⟩ : ∃ b, b = l[j].b := ⟨_, rfl⟩
      obtain ⟨z, hzz⟩ : ∃ z, z = l[j].z := ⟨_, rfl⟩
      obtain ⟨g, o, hA, hc⟩ := HP.out.1 (by intro e; have := congrArg List.length e; simp at this; rw [this] at hkl; simp at hkl)
      subst hA
      have hck := hc j (by simpa using hkl)
      have cs0 : wr.cell? ⟨g, o + j * 2, none⟩ = some (.string s) := HEW.out.cell' (by rw [hck.1, hs]; simp [Co.pair])
      have cs1 : wr.cell? ⟨g, o + j * 2 + 1, none⟩ = some (.pointer (some ⟨b, 0, none⟩)) := HEW.out.cell' (by rw [hck.2, hb]; simp [Co.pair])
      have HBB := Lib.hid (show BigK wr b z by rw [hb, hzz]; exact (HP.out.2 _ (List.getElem_mem hkl)).ext HEW.out)
      have HZB := Lib.hid (show z.natAbs < B64 ^ 2 by rw [hzz]; exact HZ.out _ (List.getElem_mem hkl))
      have HX := Lib.hid (show (l.map Co.val)[j]'(by simpa using hkl) = (s, z) by simp [Co.val, hs, hzz])
      clear hs hb hzz hck hc
      obtain ⟨T, hT⟩ : ∃ T, T = cutZ false (z * u) := ⟨_, rfl⟩
      have HTT := Lib.hid hT
      have HTK := Lib.hid (show vnz (dtimes false u ((l.map Co.val).take (j + 1))) = vnz (dtimes false u ((l.map Co.val).take j)) ++ vnz [(s, T)] by
        rw [dtimes_take (by simpa using hkl) HX.out, vnz_append, hT])
      clear hT
      obtain ⟨W, hW⟩ : ∃ W, W = wr.alloc (dcBox s b) := ⟨_, rfl⟩
      have K1 := Lib.hid (show Blk W wr.heap.size 118 [.string s, .pointer (some ⟨b, 0, none⟩)] by rw [hW]; exact blk_new0 wr 118 [.string s, .pointer (some ⟨b, 0, none⟩)])
      have E1 := Lib.hid (show Ext wr W by rw [hW]; exact ext1 _ _)
      have HW1 := Lib.hid hW; clear hW
      have HMU := Lib.hid (fun (X : World) (e : Ext W X) => dMul b x z u X (HBB.out.ext (E1.out.trans' e)) (HD.out.ext ((HEW.out.trans' E1.out).trans' e)) (inR_cut false HZB.out HU.out).1 (inR_cut false HZB.out HU.out).2.1 (inR_cut false HZB.out HU.out).2.2.1 (by rw [rnd_cutZ]; exact (inR_cut false HZB.out HU.out).2.2.2.1) (TT.out.ext ((HEW.out.trans' E1.out).trans' e)))
      simp only [rnd_cutZ] at HMU
      rw [← HTT.out] at HMU
      go_upto_region 5 with fail
      rw [← HW1.out]
      obtain ⟨q, hq⟩ : ∃ q, q = wr.heap.size := ⟨_, rfl⟩
      rw [← hq] at K1 ⊢
      have HQ := Lib.hid hq; clear hq
      have c0 : W.cell? ⟨q, 0, none⟩ = some (.string s) := (K1.out.cell 0).trans rfl
      have c1 : W.cell? ⟨q, 1, none⟩ = some (.pointer (some ⟨b, 0, none⟩)) := (K1.out.cell 1).trans rfl
      have c2 : W.cell? ⟨w.heap.size, 0, none⟩ = some (.pointer (some ⟨x, 0, none⟩)) := ((KD.out.ext (HE.out.trans' E1.out)).cell 0).trans rfl
      have lq := cell_lt c0
      have lw := cell_lt c2
      have KS0 := Lib.hid (show DI3 q s b w.heap.size x W from ⟨c0, c1, c2⟩)
      have KS0d := Lib.hid (show DI3 q s b w.heap.size x W.drew from KS0.out)
      clear cs0 cs1
      go_cut [8] (fun s8 wx => IBox s T W s8 wx)
      case first =>
        go_region_held3 (fun w' => w'.cell? ⟨q, 0, none⟩ = some (.string s) ∧ w'.cell? ⟨q, 1, none⟩ = some (.pointer (some ⟨b, 0, none⟩)) ∧ w'.cell? ⟨w.heap.size, 0, none⟩ = some (.pointer (some ⟨x, 0, none⟩))) ((show DI3 q s b w.heap.size x _; (repeat (first | (with_reducible refine DI3.drew ?_) | (with_reducible refine DI3.alloc ?_ _) | (with_reducible refine DI3.set2 ?_ ?_ ?_; rotate_left; omega; omega))); with_reducible first | exact KS1.out | exact KS0d.out | exact KS0.out)) ((go_at_call 90; (with_reducible refine (HMU.out _ (by with_reducible first | exact dcG0 _ | exact dcG1 _)).mono ?_); rintro e w1 ⟨r1, rfl, hB, hE⟩; have HB1 := Lib.hid hB.k; have HE1 := Lib.hid (show Ext W w1 by with_reducible first | exact dcoinE0 hE | exact dcoinE1 hE); have KS1 := Lib.hid (KS0.out.ext HE1.out); have sz1 := HE1.out.size; (try ((with_reducible have K5 := Lib.hid (dcoinM1 hE)); have l5 := K5.out.lt; have q5 : w1.cell? ⟨W.heap.size, 0, none⟩ = some (.string ⟨#[]⟩) := (K5.out.cell 0).trans rfl; have r5 : w1.cell? ⟨W.heap.size, 1, none⟩ = some (.pointer none) := (K5.out.cell 1).trans rfl; have f5 := K5.out.frozen 0; have g5 := K5.out.frozen 1)); clear hE hB c0 c1 c2))
        all_goals (go_wp2_with fail; go_meet)
        all_goals first | with_reducible exact iBox_n _ HB1.out HE1.out | with_reducible exact iBox_o _ K5.out (by omega) HB1.out HE1.out
      case rest =>
        obtain ⟨p, r, rfl, hP, hR, hX⟩ := hcut
        have HEX := Lib.hid (E1.out.trans' hX)
        have HR := Lib.hid hR
        have d0 : wc.cell? ⟨p, 0, none⟩ = some (.string s) := (hP.cell 0).trans rfl
        have d1 : wc.cell? ⟨p, 1, none⟩ = some (.pointer (some ⟨r, 0, none⟩)) := (hP.cell 1).trans rfl
        have HPP := Lib.hid hP
        clear hP hR hX c0 c1 c2
        go_wp2_with (fail)
        go_at_call 84
        refine (tdIsZero s r T _ HR.out).mono ?_
        rintro e w2 ⟨rfl, hE⟩
        have HE2 := Lib.hid (HEX.out.trans' hE); have HR2 := Lib.hid (HR.out.ext hE)
        obtain ⟨e0, e1, -⟩ := dcells_2 (HPP.out.ext hE)
        clear hE d0 d1
        by_cases hT0 : T = 0
        · have hsg : (sgn T == 0) = true := by simp [dsgn_ne, hT0]
          have HT0 := Lib.hid hT0; clear hT0
          go_wp2
          go_roundw
          case rel => exact ⟨j + 1, cs, by omega, by go_num, by rw [HTK.out, HV.out, HT0.out]; simp [vnz], by have := HCL.out; omega, ⟨owns_ext HO.out.1 HE2.out, fun y hy => (HO.out.2 y hy).ext HE2.out⟩, HE.out.trans' HE2.out⟩
          case measure => simp [intOf]; omega
        · have hsg : (sgn T == 0) = false := by simp [dsgn_ne, hT0]
          have HT0 := Lib.hid hT0; clear hT0
          have HAA := Lib.hid (show DCoinsAt w2 A3 cs from dcoinsAt_own (c := c3) ⟨owns_ext HO.out.1 HE2.out, fun y hy => (HO.out.2 y hy).ext HE2.out⟩ rfl)
          have HAB := Lib.hid (show DCoinsAt (w2.alloc (dcBox s r)) (some ⟨w2.heap.size, 0, none⟩) [⟨s, r, T⟩] from ⟨fun _ => ⟨w2.heap.size, 0, rfl, fun i hi => by
            obtain rfl : i = 0 := by simp at hi; omega
            exact ⟨by rw [cell_new]; simp [Co.pair], by rw [cell_new]; simp [Co.pair]⟩⟩, fun y hy => by
            obtain rfl := List.mem_singleton.1 hy
            exact HR2.out.ext (Ext.alloc' _ _)⟩)
          have HLT := Lib.hid (show ∀ y ∈ cs.map Co.val, keyLt y.1 s = true ∧ y.2 ≠ 0 from fun y hy => by
            rw [HV.out] at hy
            have h1 := List.mem_filter.1 hy
            refine ⟨?_, by simpa using h1.2⟩
            obtain ⟨v, hv, rfl⟩ := List.mem_map.1 h1.1
            obtain ⟨i, hi, rfl⟩ := List.mem_iff_getElem.1 hv
            rw [List.length_take] at hi
            rw [List.getElem_take]
            have := ascP_lt HSO.out (i := i) (j := j) (by omega) (by simpa using hkl)
            rw [HX.out] at this
            exact this)
          have hcn := HC3.out
          have hcm := HCL.out
          have HADD := Lib.hid (tdAddCoins A3 (some ⟨w2.heap.size, 0, none⟩) cs.length c3 1 1 cs [⟨s, r, T⟩] _ rfl rfl (by omega) (by omega) hcn (Nat.le_refl _) (HAA.out.ext (ext1 _ _)) HAB.out (fun a ha v hv e => by
            exfalso
            obtain rfl := List.mem_singleton.1 hv
            have h := (HLT.out _ (List.mem_map.2 ⟨a, ha, rfl⟩)).1
            have e' : (Co.val a).1 = s := e
            rw [e', keyLt_irrefl] at h; cases h) (TT.out.ext ((HEW.out.trans' HE2.out).trans' (ext1 _ _))))
          rw [show ([⟨s, r, T⟩] : List Co).map Co.val = [(s, T)] from rfl, dmrg_snoc HT0.out _ HLT.out] at HADD
          go_wp2_with (fail)
          go_at_call 80
          refine HADD.out.mono ?_
          rintro e w3 ⟨v3, cs3, rfl, hv3, ho3, hE⟩
          have HE3 := Lib.hid ((HE2.out.trans' (ext1 _ _)).trans' hE); have HV3 := Lib.hid hv3
          have HO3 := Lib.hid (show DCoinsOwn w3 w.heap.size v3 cs3 from ⟨row_low ho3.1 ((HEW.out.trans' HE2.out).trans' (ext1 _ _)).size, ho3.2⟩)
          clear hE hv3 ho3 e0 e1 hsg hcn hcm
          go_wp2
          go_roundw
          case rel => exact ⟨j + 1, cs3, by omega, by go_num, by rw [HTK.out, HV3.out, HV.out]; simp [vnz, HT0.out], by
            have h := congrArg List.length HV3.out
            simp at h
            have := HCL.out; omega, HO3.out, HE.out.trans' HE3.out⟩
          case measure => simp [intOf]; omega
    · obtain rfl : j = n := by omega
      go_wp2
      go_ret
      refine ⟨_, cs, rfl, ?_, HO.out, HEW.out⟩
      rw [HV.out, List.take_of_length_le (by simp [HL.out])]

set_option maxRecDepth 100000 in
set_option maxHeartbeats 4000000 in
theorem tdMulDecTruncate (A : Option Addr) (n c x : Nat) (u : Int) (l : List Co) (w : World) (hl : l.length = n) (hn : n ≤ 10000) (hA : DCoinsAt w A l) (hd : BigK w x u) (hu : u.natAbs < B64 ^ 2) (hu0 : u ≠ 0) (hz : ∀ y ∈ l, y.z.natAbs < B64 ^ 2) (hs : AscP (l.map Co.val)) (hT : Thr w) :
    Calls Tryz.prog 48 #[.slice A n c, .agg #[.pointer (some ⟨x, 0, none⟩)]] w (RetDCoins (vnz (dtimes true u (l.map Co.val))) w) := by
  obtain ⟨V, hV⟩ : ∃ V, V = w.alloc (decBox x) := ⟨_, rfl⟩
  have KD := Lib.hid (show Blk V w.heap.size 84 [.pointer (some ⟨x, 0, none⟩)] by rw [hV]; exact blk_new0 w 84 [.pointer (some ⟨x, 0, none⟩)])
  have EV := Lib.hid (show Ext w V by rw [hV]; exact ext1 _ _)
  have HVV := Lib.hid hV
  have HL := Lib.hid hl; have HP := Lib.hid hA; have HZ := Lib.hid hz; have HU := Lib.hid hu; have HD := Lib.hid hd; have HSO := Lib.hid hs; have TT := Lib.hid hT
  have HU0 := Lib.hid hu0
  have hd0 : V.cell? ⟨w.heap.size, 0, none⟩ = some (.pointer (some ⟨x, 0, none⟩)) := (KD.out.cell 0).trans rfl
  have hdl := cell_lt hd0
  clear hl hA hz hu hd hs hT hV hu0
  go_enter Tryz.func48, Tryz.ntmps48
  go_wp2_with (fail)
  go_at_call 59
  rw [← HVV.out]
  refine (dIsZero x u _ (HD.out.ext EV.out)).mono ?_
  rintro e w9 ⟨rfl, hE⟩
  have EV9 := Lib.hid hE; clear hE
  have hsgn : (sgn u == 0) = false := by have := HU0.out; simp [dsgn_ne]; exact this
  go_wp2
  clear hd0 hdl
  go_loopw [5, 14] (fun v i wr => ∃ (j : Nat) (cs : List Co), j ≤ n ∧ i = .int .i64 j ∧ cs.map Co.val = vnz (dtimes true u ((l.map Co.val).take j)) ∧ cs.length ≤ j ∧ DCoinsOwn wr w.heap.size v cs ∧ Ext V wr) (fun _ i _ => n - (intOf i).toNat)
  case atStart => exact ⟨0, [], Nat.zero_le _, rfl, rfl, Nat.le_refl _, ⟨World.ownsRow_nil _ _ _ _, fun _ h => nomatch h⟩, EV9.out⟩
  case round =>
    obtain ⟨j, cs, hj, rfl, hcv, hcl, hown, hE⟩ := hrel
    obtain ⟨A3, c3, rfl, hc3⟩ := down_cap hown.1
    have HC3 := Lib.hid hc3
    have HV := Lib.hid hcv; have HCL := Lib.hid hcl; have HO := Lib.hid hown; have HE := Lib.hid hE
    have HEW := Lib.hid (EV.out.trans' hE)
    clear hcv hcl hown hE hc3
    by_cases hlt : j < n
    · have hkl : j < l.length := by rw [HL.out]; exact hlt
      obtain ⟨s, hs⟩ : ∃ s, s = l[j].s := ⟨_, rfl⟩
      obtain ⟨b, hb⟩ : ∃ b, b = l[j].b := ⟨_, rfl⟩
      obtain ⟨z, hzz⟩ : ∃ z, z = l[j].z := ⟨_, rfl⟩
      obtain ⟨g, o, hA, hc⟩ := HP.out.1 (by intro e; have := congrArg List.length e; simp at this; rw [this] at hkl; simp at hkl)
      subst hA
      have hck := hc j (by simpa using hkl)
      have cs0 : wr.cell? ⟨g, o + j * 2, none⟩ = some (.string s) := HEW.out.cell' (by rw [hck.1, hs]; simp [Co.pair])
      have cs1 : wr.cell? ⟨g, o + j * 2 + 1, none⟩ = some (.pointer (some ⟨b, 0, none⟩)) := HEW.out.cell' (by rw [hck.2, hb]; simp [Co.pair])
      have HBB := Lib.hid (show BigK wr b z by rw [hb, hzz]; exact (HP.out.2 _ (List.getElem_mem hkl)).ext HEW.out)
      have HZB := Lib.hid (show z.natAbs < B64 ^ 2 by rw [hzz]; exact HZ.out _ (List.getElem_mem hkl))
      have HX := Lib.hid (show (l.map Co.val)[j]'(by simpa using hkl) = (s, z) by simp [Co.val, hs, hzz])
      clear hs hb hzz hck hc
      obtain ⟨T, hT⟩ : ∃ T, T = cutZ true (z * u) := ⟨_, rfl⟩
      have HTT := Lib.hid hT
      have HTK := Lib.hid (show vnz (dtimes true u ((l.map Co.val).take (j + 1))) = vnz (dtimes true u ((l.map Co.val).take j)) ++ vnz [(s, T)] by
        rw [dtimes_take (by simpa using hkl) HX.out, vnz_append, hT])
      clear hT
      obtain ⟨W, hW⟩ : ∃ W, W = wr.alloc (dcBox s b) := ⟨_, rfl⟩
      have K1 := Lib.hid (show Blk W wr.heap.size 118 [.string s, .pointer (some ⟨b, 0, none⟩)] by rw [hW]; exact blk_new0 wr 118 [.string s, .pointer (some ⟨b, 0, none⟩)])
      have E1 := Lib.hid (show Ext wr W by rw [hW]; exact ext1 _ _)
      have HW1 := Lib.hid hW; clear hW
      have HMU := Lib.hid (fun (X : World) (e : Ext W X) => dMulT b x z u X (HBB.out.ext (E1.out.trans' e)) (HD.out.ext ((HEW.out.trans' E1.out).trans' e)) (inR_cut true HZB.out HU.out).1 (inR_cut true HZB.out HU.out).2.1 (inR_cut true HZB.out HU.out).2.2.1 (by rw [tdiv_cutZ]; exact (inR_cut true HZB.out HU.out).2.2.2.1) (TT.out.ext ((HEW.out.trans' E1.out).trans' e)))
      simp only [tdiv_cutZ] at HMU
      rw [← HTT.out] at HMU
      go_upto_region 7 with fail
      rw [← HW1.out]
      obtain ⟨q, hq⟩ : ∃ q, q = wr.heap.size := ⟨_, rfl⟩
      rw [← hq] at K1 ⊢
      have HQ := Lib.hid hq; clear hq
      have c0 : W.cell? ⟨q, 0, none⟩ = some (.string s) := (K1.out.cell 0).trans rfl
      have c1 : W.cell? ⟨q, 1, none⟩ = some (.pointer (some ⟨b, 0, none⟩)) := (K1.out.cell 1).trans rfl
      have c2 : W.cell? ⟨w.heap.size, 0, none⟩ = some (.pointer (some ⟨x, 0, none⟩)) := ((KD.out.ext (HE.out.trans' E1.out)).cell 0).trans rfl
      have lq := cell_lt c0
      have lw := cell_lt c2
      have KS0 := Lib.hid (show DI3 q s b w.heap.size x W from ⟨c0, c1, c2⟩)
      have KS0d := Lib.hid (show DI3 q s b w.heap.size x W.drew from KS0.out)
      clear cs0 cs1
      go_cut [8] (fun s8 wx => IBox s T W s8 wx)
      case first =>
        go_region_held3 (fun w' => w'.cell? ⟨q, 0, none⟩ = some (.string s) ∧ w'.cell? ⟨q, 1, none⟩ = some (.pointer (some ⟨b, 0, none⟩)) ∧ w'.cell? ⟨w.heap.size, 0, none⟩ = some (.pointer (some ⟨x, 0, none⟩))) ((show DI3 q s b w.heap.size x _; (repeat (first | (with_reducible refine DI3.drew ?_) | (with_reducible refine DI3.alloc ?_ _) | (with_reducible refine DI3.set2 ?_ ?_ ?_; rotate_left; omega; omega))); with_reducible first | exact KS1.out | exact KS0d.out | exact KS0.out)) ((go_at_call 83; (with_reducible refine (HMU.out _ (by with_reducible first | exact dcG0 _ | exact dcG1 _)).mono ?_); rintro e w1 ⟨r1, rfl, hB, hE⟩; have HB1 := Lib.hid hB.k; have HE1 := Lib.hid (show Ext W w1 by with_reducible first | exact dcoinE0 hE | exact dcoinE1 hE); have KS1 := Lib.hid (KS0.out.ext HE1.out); have sz1 := HE1.out.size; (try ((with_reducible have K5 := Lib.hid (dcoinM1 hE)); have l5 := K5.out.lt; have q5 : w1.cell? ⟨W.heap.size, 0, none⟩ = some (.string ⟨#[]⟩) := (K5.out.cell 0).trans rfl; have r5 : w1.cell? ⟨W.heap.size, 1, none⟩ = some (.pointer none) := (K5.out.cell 1).trans rfl; have f5 := K5.out.frozen 0; have g5 := K5.out.frozen 1)); clear hE hB c0 c1 c2))
        all_goals (go_wp2_with fail; go_meet)
        all_goals first | with_reducible exact iBox_n _ HB1.out HE1.out | with_reducible exact iBox_o _ K5.out (by omega) HB1.out HE1.out
      case rest =>
        obtain ⟨p, r, rfl, hP, hR, hX⟩ := hcut
        have HEX := Lib.hid (E1.out.trans' hX)
        have HR := Lib.hid hR
        have d0 : wc.cell? ⟨p, 0, none⟩ = some (.string s) := (hP.cell 0).trans rfl
        have d1 : wc.cell? ⟨p, 1, none⟩ = some (.pointer (some ⟨r, 0, none⟩)) := (hP.cell 1).trans rfl
        have HPP := Lib.hid hP
        clear hP hR hX c0 c1 c2
        go_wp2_with (fail)
        go_at_call 84
        refine (tdIsZero s r T _ HR.out).mono ?_
        rintro e w2 ⟨rfl, hE⟩
        have HE2 := Lib.hid (HEX.out.trans' hE); have HR2 := Lib.hid (HR.out.ext hE)
        obtain ⟨e0, e1, -⟩ := dcells_2 (HPP.out.ext hE)
        clear hE d0 d1
        by_cases hT0 : T = 0
        · have hsg : (sgn T == 0) = true := by simp [dsgn_ne, hT0]
          have HT0 := Lib.hid hT0; clear hT0
          go_wp2
          go_roundw
          case rel => exact ⟨j + 1, cs, by omega, by go_num, by rw [HTK.out, HV.out, HT0.out]; simp [vnz], by have := HCL.out; omega, ⟨owns_ext HO.out.1 HE2.out, fun y hy => (HO.out.2 y hy).ext HE2.out⟩, HE.out.trans' HE2.out⟩
          case measure => simp [intOf]; omega
        · have hsg : (sgn T == 0) = false := by simp [dsgn_ne, hT0]
          have HT0 := Lib.hid hT0; clear hT0
          have HAA := Lib.hid (show DCoinsAt w2 A3 cs from dcoinsAt_own (c := c3) ⟨owns_ext HO.out.1 HE2.out, fun y hy => (HO.out.2 y hy).ext HE2.out⟩ rfl)
          have HAB := Lib.hid (show DCoinsAt (w2.alloc (dcBox s r)) (some ⟨w2.heap.size, 0, none⟩) [⟨s, r, T⟩] from ⟨fun _ => ⟨w2.heap.size, 0, rfl, fun i hi => by
            obtain rfl : i = 0 := by simp at hi; omega
            exact ⟨by rw [cell_new]; simp [Co.pair], by rw [cell_new]; simp [Co.pair]⟩⟩, fun y hy => by
            obtain rfl := List.mem_singleton.1 hy
            exact HR2.out.ext (Ext.alloc' _ _)⟩)
          have HLT := Lib.hid (show ∀ y ∈ cs.map Co.val, keyLt y.1 s = true ∧ y.2 ≠ 0 from fun y hy => by
            rw [HV.out] at hy
            have h1 := List.mem_filter.1 hy
            refine ⟨?_, by simpa using h1.2⟩
            obtain ⟨v, hv, rfl⟩ := List.mem_map.1 h1.1
            obtain ⟨i, hi, rfl⟩ := List.mem_iff_getElem.1 hv
            rw [List.length_take] at hi
            rw [List.getElem_take]
            have := ascP_lt HSO.out (i := i) (j := j) (by omega) (by simpa using hkl)
            rw [HX.out] at this
            exact this)
          have hcn := HC3.out
          have hcm := HCL.out
          have HADD := Lib.hid (tdAddCoins A3 (some ⟨w2.heap.size, 0, none⟩) cs.length c3 1 1 cs [⟨s, r, T⟩] _ rfl rfl (by omega) (by omega) hcn (Nat.le_refl _) (HAA.out.ext (ext1 _ _)) HAB.out (fun a ha v hv e => by
            exfalso
            obtain rfl := List.mem_singleton.1 hv
            have h := (HLT.out _ (List.mem_map.2 ⟨a, ha, rfl⟩)).1
            have e' : (Co.val a).1 = s := e
            rw [e', keyLt_irrefl] at h; cases h) (TT.out.ext ((HEW.out.trans' HE2.out).trans' (ext1 _ _))))
          rw [show ([⟨s, r, T⟩] : List Co).map Co.val = [(s, T)] from rfl, dmrg_snoc HT0.out _ HLT.out] at HADD
          go_wp2_with (fail)
          go_at_call 80
          refine HADD.out.mono ?_
          rintro e w3 ⟨v3, cs3, rfl, hv3, ho3, hE⟩
          have HE3 := Lib.hid ((HE2.out.trans' (ext1 _ _)).trans' hE); have HV3 := Lib.hid hv3
          have HO3 := Lib.hid (show DCoinsOwn w3 w.heap.size v3 cs3 from ⟨row_low ho3.1 ((HEW.out.trans' HE2.out).trans' (ext1 _ _)).size, ho3.2⟩)
          clear hE hv3 ho3 e0 e1 hsg hcn hcm
          go_wp2
          go_roundw
          case rel => exact ⟨j + 1, cs3, by omega, by go_num, by rw [HTK.out, HV3.out, HV.out]; simp [vnz, HT0.out], by
            have h := congrArg List.length HV3.out
            simp at h
            have := HCL.out; omega, HO3.out, HE.out.trans' HE3.out⟩
          case measure => simp [intOf]; omega
    · obtain rfl : j = n := by omega
      go_wp2
      go_ret
      refine ⟨_, cs, rfl, ?_, HO.out, HEW.out⟩
      rw [HV.out, List.take_of_length_le (by simp [HL.out])]
end Go.Proofs.YtcoffndnfaemoaaGreatDoor

namespace Go.Proofs.YtcoffndnfaemoaaGreatDoor
open Go Go.RowKit

set_option maxRecDepth 100000 in
theorem tdMulDecTruncate0 (A : Option Addr) (n c x : Nat) (w : World) (hd : BigK w x 0) :
    Calls Tryz.prog 48 #[.slice A n c, .agg #[.pointer (some ⟨x, 0, none⟩)]] w (RetDCoins [] w) := by
  have HD := Lib.hid (hd.ext (Ext.alloc' w (decBox x)))
  clear hd
  go_enter Tryz.func48, Tryz.ntmps48
  go_wp2_with (fail)
  go_at_call 59
  refine (dIsZero x 0 _ HD.out).mono ?_
  rintro e w1 ⟨rfl, hE⟩
  have HE := Lib.hid ((Ext.alloc' w (decBox x)).trans' hE)
  clear hE
  have hsg : (sgn 0 == 0) = true := rfl
  go_wp2
  go_ret
  refine ⟨_, [], rfl, rfl, ⟨⟨rfl, Or.inr ⟨w1.heap.size, 0, #[], rfl, HE.out.size, heap_alloc_new w1 _, Nat.le_refl _, Nat.zero_le _, rfl, rfl⟩⟩, fun _ h => nomatch h⟩, HE.out.trans' (ext1 _ _)⟩
theorem dtimes_zero (t : Bool) (l : List (ByteArray × Int)) : vnz (dtimes t 0 l) = [] := by
  have h0 : cutZ t 0 = 0 := by unfold cutZ cutN; simp
  unfold vnz dtimes
  rw [List.filter_eq_nil_iff]
  intro x hx
  obtain ⟨y, _, rfl⟩ := List.mem_map.1 hx
  simp [h0]
theorem tdMulTruncAll (A : Option Addr) (n c x : Nat) (u : Int) (l : List Co) (w : World) (hl : l.length = n) (hn : n ≤ 10000) (hA : DCoinsAt w A l) (hd : BigK w x u) (hu : u.natAbs < B64 ^ 2) (hz : ∀ y ∈ l, y.z.natAbs < B64 ^ 2) (hs : AscP (l.map Co.val)) (hT : Thr w) :
    Calls Tryz.prog 48 #[.slice A n c, .agg #[.pointer (some ⟨x, 0, none⟩)]] w (RetDCoins (vnz (dtimes true u (l.map Co.val))) w) := by
  by_cases h0 : u = 0
  · subst h0; rw [dtimes_zero]; exact tdMulDecTruncate0 A n c x w hd
  · exact tdMulDecTruncate A n c x u l w hl hn hA hd hu h0 hz hs hT
theorem vnzt_len (t : Bool) (u : Int) (l : List (ByteArray × Int)) : (vnz (dtimes t u l)).length ≤ l.length := by
  have := vnz_len (dtimes t u l)
  unfold dtimes at this ⊢
  rw [List.length_map] at this; exact this
theorem vnzt_abs {t : Bool} {u : Int} {l : List (ByteArray × Int)} (hu : u.natAbs < B64 ^ 2) (hz : ∀ x ∈ l, x.2.natAbs < B64 ^ 2) : ∀ x ∈ vnz (dtimes t u l), x.2.natAbs < B64 ^ 4 := fun x hx => by
  unfold vnz at hx
  obtain ⟨y, hy, rfl⟩ := List.mem_map.1 (List.mem_filter.1 hx).1
  exact cutZ_abs t (hz y hy) hu
theorem small4 {z : Int} (h : z.natAbs < B64 ^ 4) : Small z := by
  have h2 : B64 ^ 4 ≤ B64 ^ 30 := Nat.pow_le_pow_right B64_pos (by omega)
  unfold Small; omega

set_option maxRecDepth 100000 in
set_option maxHeartbeats 4000000 in
theorem iDecMulCT (A : Option Addr) (n c : Nat) (x y : Int) (l : List DP) (w : World) (hl : l.length = n) (hn : n ≤ 10000) (hA : DPlainAt w A l) (hz : ∀ v ∈ l, DecB v.2.1 v.2.2) (hd : DecB x y) (hs : AscP (l.map dval)) (hT : Thr w) (hf : ∀ v ∈ vnz (dtimes true (decV x y) (l.map dval)), FitW v.2) :
    Calls Tryz.prog 15 #[.slice A n c, .agg #[.int .i64 x, .int .i64 y], .bool true] w (RetDBack ((vnz (dtimes true (decV x y) (l.map dval))).map dback) w) := by
  obtain ⟨W, hW⟩ : ∃ W, W = w.alloc (.cells #[.int .i64 x, .int .i64 y] 24) := ⟨_, rfl⟩
  have EW := Lib.hid (show Ext w W by rw [hW]; exact ext1 _ _)
  have KD := Lib.hid (show Blk W w.heap.size 24 [.int .i64 x, .int .i64 y] by rw [hW]; exact blk_new0 w 24 [.int .i64 x, .int .i64 y])
  have HWW := Lib.hid hW
  obtain ⟨u, hu⟩ : ∃ u, u = decV x y := ⟨_, rfl⟩
  obtain ⟨L, hL⟩ : ∃ L, L = vnz (dtimes true u (l.map dval)) := ⟨_, rfl⟩
  rw [← hu, ← hL] at hf
  rw [← hu, ← hL]
  have hub : u.natAbs < B64 ^ 2 := by rw [hu]; have := decB_abs hd; unfold decV; omega
  have hzb : ∀ v ∈ l.map dval, v.2.natAbs < B64 ^ 2 := fun v hv => by
    obtain ⟨p, hp, rfl⟩ := List.mem_map.1 hv
    have := decB_abs (hz p hp)
    show (decV p.2.1 p.2.2).natAbs < _
    unfold decV; omega
  have HF := Lib.hid hf
  have HAB := Lib.hid (show ∀ v ∈ L, v.2.natAbs < B64 ^ 4 by rw [hL]; exact vnzt_abs hub hzb)
  have HLN := Lib.hid (show L.length ≤ 10000 by rw [hL]; have := vnzt_len true u (l.map dval); rw [List.length_map, hl] at this; omega)
  have H1 := Lib.hid (fun (V : World) (e : Ext W V) => iDecCoins A n c l V hl (by omega) (hA.ext (EW.out.trans' e)) hz (hT.ext (EW.out.trans' e)))
  have H2 := Lib.hid (fun (V : World) (e : Ext W V) => iDec x y V hd (hT.ext (EW.out.trans' e)))
  rw [← hu] at H2
  have H3 := Lib.hid (fun (A1 : Option Addr) (c1 b : Nat) (ca : List Co) (va : ca.map Co.val = l.map dval) (V : World) (e : Ext W V) (k1 : DCoinsAt V A1 ca) (kb : BigK V b u) =>
    show Calls Tryz.prog 48 #[.slice A1 ca.length c1, .agg #[.pointer (some ⟨b, 0, none⟩)]] V (RetDCoins L V) by
      rw [hL, ← va]
      exact tdMulTruncAll A1 ca.length c1 b u ca V rfl (by have := congrArg List.length va; simp at this; omega) k1 kb hub (fun q hq => hzb q.val (by rw [← va]; exact List.mem_map_of_mem hq)) (by rw [va]; exact hs) (hT.ext (EW.out.trans' e)))
  have HSB := Lib.hid (show ∀ V, Ext W V → V.cell? ⟨w.heap.size, 0, none⟩ = some (.int .i64 x) ∧ V.cell? ⟨w.heap.size, 1, none⟩ = some (.int .i64 y) from fun V e => ⟨((KD.out.ext e).cell 0).trans rfl, ((KD.out.ext e).cell 1).trans rfl⟩)
  obtain ⟨d0, d1⟩ := HSB.out W (Ext.refl _)
  have dl := cell_lt d0
  have E0 := Lib.hid (show Ext W W.drew from Ext.drewN' W 1)
  clear hW hl hA hz hd hs hT hf hu hL hub hzb hn
  go_enter Tryz.func15, Tryz.ntmps15
  go_upto_region 2 with fail
  rw [← HWW.out]
  go_region_held3 (fun V => V.cell? ⟨w.heap.size, 0, none⟩ = some (.int .i64 x) ∧ V.cell? ⟨w.heap.size, 1, none⟩ = some (.int .i64 y)) ((first | exact HSB.out _ E0.out | exact HSB.out _ HE5.out | exact HSB.out _ HE4.out | exact HSB.out _ HEC.out | exact HSB.out _ HED.out)) (first
    | (go_at_call 47; refine (H1.out _ (by first | exact E0.out | exact HED.out)).mono ?_; rintro e w1 ⟨v1, ca, rfl, va, oa, hE⟩; have HEC := Lib.hid (show Ext W w1 by first | exact HED.out.trans' hE | exact Ext.undrew hE); obtain ⟨A1, c1, rfl, -⟩ := down_cap oa.1; have KA := Lib.hid (show DCoinsAt w1 A1 ca from dcoinsAt_own oa rfl); have VA := Lib.hid va; (try (have HB2 := Lib.hid (HB.out.ext hE))); clear hE va oa)
    | (go_at_call 49; refine (H2.out _ (by first | exact E0.out | exact HEC.out)).mono ?_; rintro e w2 ⟨b, rfl, hB, hE⟩; have HED := Lib.hid (show Ext W w2 by first | exact HEC.out.trans' hE | exact Ext.undrew hE); have HB := Lib.hid hB.k; (try (have KA2 := Lib.hid (KA.out.ext hE))); clear hE hB)
    | (go_at_call 48; refine (H3.out A1 c1 b ca VA.out _ (by first | exact HED.out | exact HEC.out) (by first | exact KA2.out | exact KA.out) (by first | exact HB2.out | exact HB.out)).mono ?_; rintro e w4 ⟨v4, cs4, rfl, vs, os, hE⟩; have HE4 := Lib.hid (show Ext W w4 by first | exact HED.out.trans' hE | exact HEC.out.trans' hE); obtain ⟨A4, c4, rfl, -⟩ := down_cap os.1; have KS4 := Lib.hid (show DCoinsAt w4 A4 cs4 from dcoinsAt_own os rfl); have VS := Lib.hid vs; have HL4 := Lib.hid (show cs4.length ≤ 1000000 by have h9 := congrArg List.length VS.out; rw [List.length_map] at h9; have := HLN.out; omega); clear hE vs os)
    | (go_at_call 46; refine (iBackDecsT A4 cs4.length c4 cs4 _ rfl HL4.out KS4.out (fun q hq => ⟨small4 (HAB.out q.val (by rw [← VS.out]; exact List.mem_map_of_mem hq)), HF.out q.val (by rw [← VS.out]; exact List.mem_map_of_mem hq)⟩)).mono ?_; rw [show (cs4.map fun x => dback x.val) = L.map dback by rw [← VS.out, List.map_map]; rfl]; rintro e w5 ⟨v5, rfl, ho5, hE⟩; have HO5 := Lib.hid (show DPlainOwn w5 w.heap.size v5 (L.map dback) from row_low ho5 (EW.out.trans' HE4.out).size); have HE5 := Lib.hid (HE4.out.trans' hE); clear hE ho5))
  all_goals (go_wp2_with fail)
  all_goals go_ret2
  all_goals exact ⟨_, rfl, HO5.out, EW.out.trans' HE5.out⟩

set_option maxRecDepth 100000 in
set_option maxHeartbeats 4000000 in
theorem iDecMulCN (A : Option Addr) (n c : Nat) (x y : Int) (l : List DP) (w : World) (hl : l.length = n) (hn : n ≤ 10000) (hA : DPlainAt w A l) (hz : ∀ v ∈ l, DecB v.2.1 v.2.2) (hd : DecB x y) (hs : AscP (l.map dval)) (hT : Thr w) (hf : ∃ v ∈ vnz (dtimes true (decV x y) (l.map dval)), ¬ FitW v.2) :
    Calls Tryz.prog 15 #[.slice A n c, .agg #[.int .i64 x, .int .i64 y], .bool true] w (RetE (.tuple #[.slice none 0 0, .bool false]) w) := by
  obtain ⟨W, hW⟩ : ∃ W, W = w.alloc (.cells #[.int .i64 x, .int .i64 y] 24) := ⟨_, rfl⟩
  have EW := Lib.hid (show Ext w W by rw [hW]; exact ext1 _ _)
  have KD := Lib.hid (show Blk W w.heap.size 24 [.int .i64 x, .int .i64 y] by rw [hW]; exact blk_new0 w 24 [.int .i64 x, .int .i64 y])
  have HWW := Lib.hid hW
  obtain ⟨u, hu⟩ : ∃ u, u = decV x y := ⟨_, rfl⟩
  obtain ⟨L, hL⟩ : ∃ L, L = vnz (dtimes true u (l.map dval)) := ⟨_, rfl⟩
  rw [← hu, ← hL] at hf
  have hub : u.natAbs < B64 ^ 2 := by rw [hu]; have := decB_abs hd; unfold decV; omega
  have hzb : ∀ v ∈ l.map dval, v.2.natAbs < B64 ^ 2 := fun v hv => by
    obtain ⟨p, hp, rfl⟩ := List.mem_map.1 hv
    have := decB_abs (hz p hp)
    show (decV p.2.1 p.2.2).natAbs < _
    unfold decV; omega
  have HF := Lib.hid hf
  have HAB := Lib.hid (show ∀ v ∈ L, v.2.natAbs < B64 ^ 4 by rw [hL]; exact vnzt_abs hub hzb)
  have HLN := Lib.hid (show L.length ≤ 10000 by rw [hL]; have := vnzt_len true u (l.map dval); rw [List.length_map, hl] at this; omega)
  have H1 := Lib.hid (fun (V : World) (e : Ext W V) => iDecCoins A n c l V hl (by omega) (hA.ext (EW.out.trans' e)) hz (hT.ext (EW.out.trans' e)))
  have H2 := Lib.hid (fun (V : World) (e : Ext W V) => iDec x y V hd (hT.ext (EW.out.trans' e)))
  rw [← hu] at H2
  have H3 := Lib.hid (fun (A1 : Option Addr) (c1 b : Nat) (ca : List Co) (va : ca.map Co.val = l.map dval) (V : World) (e : Ext W V) (k1 : DCoinsAt V A1 ca) (kb : BigK V b u) =>
    show Calls Tryz.prog 48 #[.slice A1 ca.length c1, .agg #[.pointer (some ⟨b, 0, none⟩)]] V (RetDCoins L V) by
      rw [hL, ← va]
      exact tdMulTruncAll A1 ca.length c1 b u ca V rfl (by have := congrArg List.length va; simp at this; omega) k1 kb hub (fun q hq => hzb q.val (by rw [← va]; exact List.mem_map_of_mem hq)) (by rw [va]; exact hs) (hT.ext (EW.out.trans' e)))
  have HSB := Lib.hid (show ∀ V, Ext W V → V.cell? ⟨w.heap.size, 0, none⟩ = some (.int .i64 x) ∧ V.cell? ⟨w.heap.size, 1, none⟩ = some (.int .i64 y) from fun V e => ⟨((KD.out.ext e).cell 0).trans rfl, ((KD.out.ext e).cell 1).trans rfl⟩)
  obtain ⟨d0, d1⟩ := HSB.out W (Ext.refl _)
  have dl := cell_lt d0
  have E0 := Lib.hid (show Ext W W.drew from Ext.drewN' W 1)
  clear hW hl hA hz hd hs hT hf hu hL hub hzb hn
  go_enter Tryz.func15, Tryz.ntmps15
  go_upto_region 2 with fail
  rw [← HWW.out]
  go_region_held3 (fun V => V.cell? ⟨w.heap.size, 0, none⟩ = some (.int .i64 x) ∧ V.cell? ⟨w.heap.size, 1, none⟩ = some (.int .i64 y)) ((first | exact HSB.out _ E0.out | exact HSB.out _ HE5.out | exact HSB.out _ HE4.out | exact HSB.out _ HEC.out | exact HSB.out _ HED.out)) (first
    | (go_at_call 47; refine (H1.out _ (by first | exact E0.out | exact HED.out)).mono ?_; rintro e w1 ⟨v1, ca, rfl, va, oa, hE⟩; have HEC := Lib.hid (show Ext W w1 by first | exact HED.out.trans' hE | exact Ext.undrew hE); obtain ⟨A1, c1, rfl, -⟩ := down_cap oa.1; have KA := Lib.hid (show DCoinsAt w1 A1 ca from dcoinsAt_own oa rfl); have VA := Lib.hid va; (try (have HB2 := Lib.hid (HB.out.ext hE))); clear hE va oa)
    | (go_at_call 49; refine (H2.out _ (by first | exact E0.out | exact HEC.out)).mono ?_; rintro e w2 ⟨b, rfl, hB, hE⟩; have HED := Lib.hid (show Ext W w2 by first | exact HEC.out.trans' hE | exact Ext.undrew hE); have HB := Lib.hid hB.k; (try (have KA2 := Lib.hid (KA.out.ext hE))); clear hE hB)
    | (go_at_call 48; refine (H3.out A1 c1 b ca VA.out _ (by first | exact HED.out | exact HEC.out) (by first | exact KA2.out | exact KA.out) (by first | exact HB2.out | exact HB.out)).mono ?_; rintro e w4 ⟨v4, cs4, rfl, vs, os, hE⟩; have HE4 := Lib.hid (show Ext W w4 by first | exact HED.out.trans' hE | exact HEC.out.trans' hE); obtain ⟨A4, c4, rfl, -⟩ := down_cap os.1; have KS4 := Lib.hid (show DCoinsAt w4 A4 cs4 from dcoinsAt_own os rfl); have VS := Lib.hid vs; have HL4 := Lib.hid (show cs4.length ≤ 1000000 by have h9 := congrArg List.length VS.out; rw [List.length_map] at h9; have := HLN.out; omega); clear hE vs os)
    | (go_at_call 46; refine (iBackDecsN A4 cs4.length c4 cs4 _ rfl HL4.out KS4.out (fun q hq => small4 (HAB.out q.val (by rw [← VS.out]; exact List.mem_map_of_mem hq))) (by obtain ⟨v, hv, hn⟩ := HF.out; rw [← VS.out] at hv; obtain ⟨q, hq, rfl⟩ := List.mem_map.1 hv; exact ⟨q, hq, hn⟩)).mono ?_; rintro e w5 ⟨rfl, hE⟩; have HE5 := Lib.hid (HE4.out.trans' hE); clear hE))
  all_goals (go_wp2_with fail)
  all_goals go_ret2
  all_goals exact ⟨rfl, EW.out.trans' HE5.out⟩

set_option maxRecDepth 100000 in
set_option maxHeartbeats 4000000 in
theorem iDecMulRT (A : Option Addr) (n c : Nat) (x y : Int) (l : List DP) (w : World) (hl : l.length = n) (hn : n ≤ 10000) (hA : DPlainAt w A l) (hz : ∀ v ∈ l, DecB v.2.1 v.2.2) (hd : DecB x y) (hs : AscP (l.map dval)) (hT : Thr w) (hf : ∀ v ∈ vnz (dtimes false (decV x y) (l.map dval)), FitW v.2) :
    Calls Tryz.prog 15 #[.slice A n c, .agg #[.int .i64 x, .int .i64 y], .bool false] w (RetDBack ((vnz (dtimes false (decV x y) (l.map dval))).map dback) w) := by
  obtain ⟨W, hW⟩ : ∃ W, W = w.alloc (.cells #[.int .i64 x, .int .i64 y] 24) := ⟨_, rfl⟩
  have EW := Lib.hid (show Ext w W by rw [hW]; exact ext1 _ _)
  have KD := Lib.hid (show Blk W w.heap.size 24 [.int .i64 x, .int .i64 y] by rw [hW]; exact blk_new0 w 24 [.int .i64 x, .int .i64 y])
  have HWW := Lib.hid hW
  obtain ⟨u, hu⟩ : ∃ u, u = decV x y := ⟨_, rfl⟩
  obtain ⟨L, hL⟩ : ∃ L, L = vnz (dtimes false u (l.map dval)) := ⟨_, rfl⟩
  rw [← hu, ← hL] at hf
  rw [← hu, ← hL]
  have hub : u.natAbs < B64 ^ 2 := by rw [hu]; have := decB_abs hd; unfold decV; omega
  have hzb : ∀ v ∈ l.map dval, v.2.natAbs < B64 ^ 2 := fun v hv => by
    obtain ⟨p, hp, rfl⟩ := List.mem_map.1 hv
    have := decB_abs (hz p hp)
    show (decV p.2.1 p.2.2).natAbs < _
    unfold decV; omega
  have HF := Lib.hid hf
  have HAB := Lib.hid (show ∀ v ∈ L, v.2.natAbs < B64 ^ 4 by rw [hL]; exact vnzt_abs hub hzb)
  have HLN := Lib.hid (show L.length ≤ 10000 by rw [hL]; have := vnzt_len false u (l.map dval); rw [List.length_map, hl] at this; omega)
  have H1 := Lib.hid (fun (V : World) (e : Ext W V) => iDecCoins A n c l V hl (by omega) (hA.ext (EW.out.trans' e)) hz (hT.ext (EW.out.trans' e)))
  have H2 := Lib.hid (fun (V : World) (e : Ext W V) => iDec x y V hd (hT.ext (EW.out.trans' e)))
  rw [← hu] at H2
  have H3 := Lib.hid (fun (A1 : Option Addr) (c1 b : Nat) (ca : List Co) (va : ca.map Co.val = l.map dval) (V : World) (e : Ext W V) (k1 : DCoinsAt V A1 ca) (kb : BigK V b u) =>
    show Calls Tryz.prog 50 #[.slice A1 ca.length c1, .agg #[.pointer (some ⟨b, 0, none⟩)]] V (RetDCoins L V) by
      rw [hL, ← va]
      exact tdMulDec A1 ca.length c1 b u ca V rfl (by have := congrArg List.length va; simp at this; omega) k1 kb hub (fun q hq => hzb q.val (by rw [← va]; exact List.mem_map_of_mem hq)) (by rw [va]; exact hs) (hT.ext (EW.out.trans' e)))
  have HSB := Lib.hid (show ∀ V, Ext W V → V.cell? ⟨w.heap.size, 0, none⟩ = some (.int .i64 x) ∧ V.cell? ⟨w.heap.size, 1, none⟩ = some (.int .i64 y) from fun V e => ⟨((KD.out.ext e).cell 0).trans rfl, ((KD.out.ext e).cell 1).trans rfl⟩)
  obtain ⟨d0, d1⟩ := HSB.out W (Ext.refl _)
  have dl := cell_lt d0
  have E0 := Lib.hid (show Ext W W.drew from Ext.drewN' W 1)
  clear hW hl hA hz hd hs hT hf hu hL hub hzb hn
  go_enter Tryz.func15, Tryz.ntmps15
  go_upto_region 3 with fail
  rw [← HWW.out]
  go_region_held3 (fun V => V.cell? ⟨w.heap.size, 0, none⟩ = some (.int .i64 x) ∧ V.cell? ⟨w.heap.size, 1, none⟩ = some (.int .i64 y)) ((first | exact HSB.out _ E0.out | exact HSB.out _ HE5.out | exact HSB.out _ HE4.out | exact HSB.out _ HEC.out | exact HSB.out _ HED.out)) (first
    | (go_at_call 47; refine (H1.out _ (by first | exact E0.out | exact HED.out)).mono ?_; rintro e w1 ⟨v1, ca, rfl, va, oa, hE⟩; have HEC := Lib.hid (show Ext W w1 by first | exact HED.out.trans' hE | exact Ext.undrew hE); obtain ⟨A1, c1, rfl, -⟩ := down_cap oa.1; have KA := Lib.hid (show DCoinsAt w1 A1 ca from dcoinsAt_own oa rfl); have VA := Lib.hid va; (try (have HB2 := Lib.hid (HB.out.ext hE))); clear hE va oa)
    | (go_at_call 49; refine (H2.out _ (by first | exact E0.out | exact HEC.out)).mono ?_; rintro e w2 ⟨b, rfl, hB, hE⟩; have HED := Lib.hid (show Ext W w2 by first | exact HEC.out.trans' hE | exact Ext.undrew hE); have HB := Lib.hid hB.k; (try (have KA2 := Lib.hid (KA.out.ext hE))); clear hE hB)
    | (go_at_call 50; refine (H3.out A1 c1 b ca VA.out _ (by first | exact HED.out | exact HEC.out) (by first | exact KA2.out | exact KA.out) (by first | exact HB2.out | exact HB.out)).mono ?_; rintro e w4 ⟨v4, cs4, rfl, vs, os, hE⟩; have HE4 := Lib.hid (show Ext W w4 by first | exact HED.out.trans' hE | exact HEC.out.trans' hE); obtain ⟨A4, c4, rfl, -⟩ := down_cap os.1; have KS4 := Lib.hid (show DCoinsAt w4 A4 cs4 from dcoinsAt_own os rfl); have VS := Lib.hid vs; have HL4 := Lib.hid (show cs4.length ≤ 1000000 by have h9 := congrArg List.length VS.out; rw [List.length_map] at h9; have := HLN.out; omega); clear hE vs os)
    | (go_at_call 46; refine (iBackDecsT A4 cs4.length c4 cs4 _ rfl HL4.out KS4.out (fun q hq => ⟨small4 (HAB.out q.val (by rw [← VS.out]; exact List.mem_map_of_mem hq)), HF.out q.val (by rw [← VS.out]; exact List.mem_map_of_mem hq)⟩)).mono ?_; rw [show (cs4.map fun x => dback x.val) = L.map dback by rw [← VS.out, List.map_map]; rfl]; rintro e w5 ⟨v5, rfl, ho5, hE⟩; have HO5 := Lib.hid (show DPlainOwn w5 w.heap.size v5 (L.map dback) from row_low ho5 (EW.out.trans' HE4.out).size); have HE5 := Lib.hid (HE4.out.trans' hE); clear hE ho5))
  all_goals (go_wp2_with fail)
  all_goals go_ret2
  all_goals exact ⟨_, rfl, HO5.out, EW.out.trans' HE5.out⟩

set_option maxRecDepth 100000 in
set_option maxHeartbeats 4000000 in
theorem iDecMulRN (A : Option Addr) (n c : Nat) (x y : Int) (l : List DP) (w : World) (hl : l.length = n) (hn : n ≤ 10000) (hA : DPlainAt w A l) (hz : ∀ v ∈ l, DecB v.2.1 v.2.2) (hd : DecB x y) (hs : AscP (l.map dval)) (hT : Thr w) (hf : ∃ v ∈ vnz (dtimes false (decV x y) (l.map dval)), ¬ FitW v.2) :
    Calls Tryz.prog 15 #[.slice A n c, .agg #[.int .i64 x, .int .i64 y], .bool false] w (RetE (.tuple #[.slice none 0 0, .bool false]) w) := by
  obtain ⟨W, hW⟩ : ∃ W, W = w.alloc (.cells #[.int .i64 x, .int .i64 y] 24) := ⟨_, rfl⟩
  have EW := Lib.hid (show Ext w W by rw [hW]; exact ext1 _ _)
  have KD := Lib.hid (show Blk W w.heap.size 24 [.int .i64 x, .int .i64 y] by rw [hW]; exact blk_new0 w 24 [.int .i64 x, .int .i64 y])
  have HWW := Lib.hid hW
  obtain ⟨u, hu⟩ : ∃ u, u = decV x y := ⟨_, rfl⟩
  obtain ⟨L, hL⟩ : ∃ L, L = vnz (dtimes false u (l.map dval)) := ⟨_, rfl⟩
  rw [← hu, ← hL] at hf
  have hub : u.natAbs < B64 ^ 2 := by rw [hu]; have := decB_abs hd; unfold decV; omega
  have hzb : ∀ v ∈ l.map dval, v.2.natAbs < B64 ^ 2 := fun v hv => by
    obtain ⟨p, hp, rfl⟩ := List.mem_map.1 hv
    have := decB_abs (hz p hp)
    show (decV p.2.1 p.2.2).natAbs < _
    unfold decV; omega
  have HF := Lib.hid hf
  have HAB := Lib.hid (show ∀ v ∈ L, v.2.natAbs < B64 ^ 4 by rw [hL]; exact vnzt_abs hub hzb)
  have HLN := Lib.hid (show L.length ≤ 10000 by rw [hL]; have := vnzt_len false u (l.map dval); rw [List.length_map, hl] at this; omega)
  have H1 := Lib.hid (fun (V : World) (e : Ext W V) => iDecCoins A n c l V hl (by omega) (hA.ext (EW.out.trans' e)) hz (hT.ext (EW.out.trans' e)))
  have H2 := Lib.hid (fun (V : World) (e : Ext W V) => iDec x y V hd (hT.ext (EW.out.trans' e)))
  rw [← hu] at H2
  have H3 := Lib.hid (fun (A1 : Option Addr) (c1 b : Nat) (ca : List Co) (va : ca.map Co.val = l.map dval) (V : World) (e : Ext W V) (k1 : DCoinsAt V A1 ca) (kb : BigK V b u) =>
    show Calls Tryz.prog 50 #[.slice A1 ca.length c1, .agg #[.pointer (some ⟨b, 0, none⟩)]] V (RetDCoins L V) by
      rw [hL, ← va]
      exact tdMulDec A1 ca.length c1 b u ca V rfl (by have := congrArg List.length va; simp at this; omega) k1 kb hub (fun q hq => hzb q.val (by rw [← va]; exact List.mem_map_of_mem hq)) (by rw [va]; exact hs) (hT.ext (EW.out.trans' e)))
  have HSB := Lib.hid (show ∀ V, Ext W V → V.cell? ⟨w.heap.size, 0, none⟩ = some (.int .i64 x) ∧ V.cell? ⟨w.heap.size, 1, none⟩ = some (.int .i64 y) from fun V e => ⟨((KD.out.ext e).cell 0).trans rfl, ((KD.out.ext e).cell 1).trans rfl⟩)
  obtain ⟨d0, d1⟩ := HSB.out W (Ext.refl _)
  have dl := cell_lt d0
  have E0 := Lib.hid (show Ext W W.drew from Ext.drewN' W 1)
  clear hW hl hA hz hd hs hT hf hu hL hub hzb hn
  go_enter Tryz.func15, Tryz.ntmps15
  go_upto_region 3 with fail
  rw [← HWW.out]
  go_region_held3 (fun V => V.cell? ⟨w.heap.size, 0, none⟩ = some (.int .i64 x) ∧ V.cell? ⟨w.heap.size, 1, none⟩ = some (.int .i64 y)) ((first | exact HSB.out _ E0.out | exact HSB.out _ HE5.out | exact HSB.out _ HE4.out | exact HSB.out _ HEC.out | exact HSB.out _ HED.out)) (first
    | (go_at_call 47; refine (H1.out _ (by first | exact E0.out | exact HED.out)).mono ?_; rintro e w1 ⟨v1, ca, rfl, va, oa, hE⟩; have HEC := Lib.hid (show Ext W w1 by first | exact HED.out.trans' hE | exact Ext.undrew hE); obtain ⟨A1, c1, rfl, -⟩ := down_cap oa.1; have KA := Lib.hid (show DCoinsAt w1 A1 ca from dcoinsAt_own oa rfl); have VA := Lib.hid va; (try (have HB2 := Lib.hid (HB.out.ext hE))); clear hE va oa)
    | (go_at_call 49; refine (H2.out _ (by first | exact E0.out | exact HEC.out)).mono ?_; rintro e w2 ⟨b, rfl, hB, hE⟩; have HED := Lib.hid (show Ext W w2 by first | exact HEC.out.trans' hE | exact Ext.undrew hE); have HB := Lib.hid hB.k; (try (have KA2 := Lib.hid (KA.out.ext hE))); clear hE hB)
    | (go_at_call 50; refine (H3.out A1 c1 b ca VA.out _ (by first | exact HED.out | exact HEC.out) (by first | exact KA2.out | exact KA.out) (by first | exact HB2.out | exact HB.out)).mono ?_; rintro e w4 ⟨v4, cs4, rfl, vs, os, hE⟩; have HE4 := Lib.hid (show Ext W w4 by first | exact HED.out.trans' hE | exact HEC.out.trans' hE); obtain ⟨A4, c4, rfl, -⟩ := down_cap os.1; have KS4 := Lib.hid (show DCoinsAt w4 A4 cs4 from dcoinsAt_own os rfl); have VS := Lib.hid vs; have HL4 := Lib.hid (show cs4.length ≤ 1000000 by have h9 := congrArg List.length VS.out; rw [List.length_map] at h9; have := HLN.out; omega); clear hE vs os)
    | (go_at_call 46; refine (iBackDecsN A4 cs4.length c4 cs4 _ rfl HL4.out KS4.out (fun q hq => small4 (HAB.out q.val (by rw [← VS.out]; exact List.mem_map_of_mem hq))) (by obtain ⟨v, hv, hn⟩ := HF.out; rw [← VS.out] at hv; obtain ⟨q, hq, rfl⟩ := List.mem_map.1 hv; exact ⟨q, hq, hn⟩)).mono ?_; rintro e w5 ⟨rfl, hE⟩; have HE5 := Lib.hid (HE4.out.trans' hE); clear hE))
  all_goals (go_wp2_with fail)
  all_goals go_ret2
  all_goals exact ⟨rfl, EW.out.trans' HE5.out⟩
end Go.Proofs.YtcoffndnfaemoaaGreatDoor
