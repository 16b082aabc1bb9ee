/-
  DecCoins.safeAdd and Add.
-/
import Derived.Test.YtcoffndnfaemoaaGreatDoorGQ
import Derived.BigRegion
namespace Go.Proofs.YtcoffndnfaemoaaGreatDoor
open Go Go.RowKit

theorem dcells_two {W : World} {g : Nat} {T : TypeId} {u v : Value} (h : Blk W g T [u, v]) : W.cell? ⟨g, 0, none⟩ = some u ∧ W.cell? ⟨g, 1, none⟩ = some v ∧ g < W.heap.size :=
  ⟨(h.cell 0).trans rfl, (h.cell 1).trans rfl, cell_lt ((h.cell 0).trans rfl)⟩
theorem ddrop_at {α : Type} {l : List α} {k : Nat} (h : k < l.length) : l.drop k = l[k] :: l.drop (k + 1) := List.drop_eq_getElem_cons h

set_option maxRecDepth 100000 in
set_option maxHeartbeats 4000000 in
theorem tdSafeAdd (A B : Option Addr) (n c m d : Nat) (la lb : List Co) (w : World) (hla : la.length = n) (hlb : lb.length = m) (hn : n ≤ 100000) (hm : m ≤ 100000) (hcn : n ≤ c) (hdm : m ≤ d) (hA : DCoinsAt w A la) (hB : DCoinsAt w B lb)
    (hz : ∀ x ∈ la, ∀ y ∈ lb, x.s = y.s → Small x.z ∧ Small y.z ∧ InR (x.z + y.z)) (hT : Thr w) :
    Calls Tryz.prog 125 #[.slice A n c, .slice B m d] w (RetDCoins (dmrg (la.map Co.val) (lb.map Co.val)) w) := by
  obtain ⟨i0, hi, hz0, hz1, hz2⟩ := info_parts infoDCoin
  have HLA := Lib.hid hla; have HLB := Lib.hid hlb; have HPA := Lib.hid hA; have HPB := Lib.hid hB; have HZ := Lib.hid hz; have TT := Lib.hid hT
  clear hla hlb hA hB hz hT
  go_enter Tryz.func125, Tryz.ntmps125
  go_wp2
  go_loopw [5, 6, 7] (fun v i j wr => ∃ (p q : Nat) (cs : List Co), p ≤ n ∧ q ≤ m ∧ i = .int .i64 p ∧ j = .int .i64 q ∧ cs.length ≤ p + q ∧ cs.map Co.val ++ dmrg ((la.map Co.val).drop p) ((lb.map Co.val).drop q) = dmrg (la.map Co.val) (lb.map Co.val) ∧ DCoinsOwn wr w.heap.size v cs ∧ Ext w wr) (fun _ i j _ => (n - (intOf i).toNat) + (m - (intOf j).toNat))
  case atStart => exact ⟨0, 0, [], Nat.zero_le _, Nat.zero_le _, rfl, rfl, Nat.zero_le _, by simp, DCoinsOwn.nil _ _, Ext.refl _⟩
  case round =>
    obtain ⟨p, q, cs, hp, hq, rfl, rfl, hcl, hcv, hown, hE⟩ := hrel
    have HC := Lib.hid hcl; have HV := Lib.hid hcv; have HO := Lib.hid hown; have HE := Lib.hid hE
    clear hcl hcv hown hE
    by_cases hlt : p < n
    · by_cases hlt2 : q < m
      · have hkp : p < la.length := by rw [HLA.out]; exact hlt
        have hkq : q < lb.length := by rw [HLB.out]; exact hlt2
        obtain ⟨s, hs⟩ : ∃ s, s = la[p].s := ⟨_, rfl⟩
        obtain ⟨a, ha⟩ : ∃ b, b = la[p].b := ⟨_, rfl⟩
        obtain ⟨y, hy⟩ : ∃ z, z = la[p].z := ⟨_, rfl⟩
        obtain ⟨t, ht⟩ : ∃ s, s = lb[q].s := ⟨_, rfl⟩
        obtain ⟨b, hb⟩ : ∃ b, b = lb[q].b := ⟨_, rfl⟩
        obtain ⟨z, hzz⟩ : ∃ z, z = lb[q].z := ⟨_, rfl⟩
        obtain ⟨g, o, hA, hc⟩ := HPA.out.1 (by intro e; have := congrArg List.length e; simp at this; rw [this] at hkp; simp at hkp)
        obtain ⟨g', o', hB, hc'⟩ := HPB.out.1 (by intro e; have := congrArg List.length e; simp at this; rw [this] at hkq; simp at hkq)
        subst hA; subst hB
        have hck := hc p (by simpa using hkp)
        have hck' := hc' q (by simpa using hkq)
        have cs0 : wr.cell? ⟨g, o + p * 2, none⟩ = some (.string s) := HE.out.cell' (by rw [hck.1, hs]; simp [Co.pair])
        have cs1 : wr.cell? ⟨g, o + p * 2 + 1, none⟩ = some (.pointer (some ⟨a, 0, none⟩)) := HE.out.cell' (by rw [hck.2, ha]; simp [Co.pair])
        have ct0 : wr.cell? ⟨g', o' + q * 2, none⟩ = some (.string t) := HE.out.cell' (by rw [hck'.1, ht]; simp [Co.pair])
        have ct1 : wr.cell? ⟨g', o' + q * 2 + 1, none⟩ = some (.pointer (some ⟨b, 0, none⟩)) := HE.out.cell' (by rw [hck'.2, hb]; simp [Co.pair])
        have g1 := cell_lt cs0; have g2 := cell_lt ct0
        have HX := Lib.hid (show (la.map Co.val)[p]'(by simpa using hkp) = (s, y) by rw [hs, hy]; simp [Co.val])
        have HY := Lib.hid (show (lb.map Co.val)[q]'(by simpa using hkq) = (t, z) by rw [ht, hzz]; simp [Co.val])
        have HBA := Lib.hid (show BigK wr a y by rw [ha, hy]; exact (HPA.out.2 _ (List.getElem_mem hkp)).ext HE.out)
        have HBB := Lib.hid (show BigK wr b z by rw [hb, hzz]; exact (HPB.out.2 _ (List.getElem_mem hkq)).ext HE.out)
        have HS := Lib.hid (fun (he : s = t) => show Small y ∧ Small z ∧ InR (y + z) by rw [hy, hzz]; exact HZ.out _ (List.getElem_mem hkp) _ (List.getElem_mem hkq) (by rw [← hs, ← ht]; exact he))
        have HIY := Lib.hid (fun (W : World) (e : Ext wr W) => tdIsZero s a y W (HBA.out.ext e))
        have HIZ := Lib.hid (fun (W : World) (e : Ext wr W) => tdIsZero t b z W (HBB.out.ext e))
        rw [dsgn_zero] at HIY HIZ
        have b0 : (0 : Int) ≤ (p : Int) := by omega
        have b1 : (0 : Int) ≤ (q : Int) := by omega
        have b2 : (p : Int) < (n : Int) := by omega
        have b3 : (q : Int) < (m : Int) := by omega
        have b4 : ¬ (p : Int) = (n : Int) := by omega
        have b5 : ¬ (q : Int) = (m : Int) := by omega
        have b6 : ¬ p = n := by omega
        have b7 : ¬ q = m := by omega
        obtain ⟨r, hr⟩ : ∃ r, r = (if keyLt s t = true then (-1 : Int) else if keyLt t s = true then 1 else 0) := ⟨_, rfl⟩
        have HCMP := Lib.hid (fun (W : World) => dcmpS s t W)
        rw [← hr] at HCMP
        have HR := Lib.hid hr
        clear hs ha hy ht hb hzz hck hck' hc hc' hr
        go_wp2_with (fail)
        go_region
        all_goals (go_wp2_with (fail); go_at_call 161; refine (HCMP.out _).mono ?_; rintro e w1 ⟨rfl, hw1⟩)
        all_goals (first | (have K8 := Lib.hid (show Blk w1 wr.heap.size 118 [.string s, .pointer (some ⟨a, 0, none⟩)] by rw [hw1]; exact ((blk_new0 wr 118 [.string s, .pointer (some ⟨a, 0, none⟩)]).ext (Ext.alloc' _ _)).ext (Ext.drewN' _ 1)); have K9 := Lib.hid (show Blk w1 (wr.heap.size + 1) 118 [.string t, .pointer (some ⟨b, 0, none⟩)] by rw [hw1]; have k := (blk_new0 (wr.alloc (.cells #[.string s, .pointer (some ⟨a, 0, none⟩)] 118)) 118 [.string t, .pointer (some ⟨b, 0, none⟩)]).ext (Ext.drewN' _ 1); rw [show (wr.alloc (.cells #[.string s, .pointer (some ⟨a, 0, none⟩)] 118)).heap.size = wr.heap.size + 1 by simp] at k; exact k); have HE1 := Lib.hid (show Ext wr w1 by rw [hw1]; exact ((Ext.alloc' _ _).trans' (Ext.alloc' _ _)).trans' (Ext.drewN' _ 1)); generalize wr.heap.size + 1 = G9 at K9 ⊢; generalize wr.heap.size = G8 at K8 ⊢; clear hw1 g1 g2 cs0 cs1 ct0 ct1) | (have K9 := Lib.hid (show Blk w1 wr.heap.size 118 [.string t, .pointer (some ⟨b, 0, none⟩)] by rw [hw1]; exact ((blk_new0 wr 118 [.string t, .pointer (some ⟨b, 0, none⟩)]).ext (Ext.alloc' _ _)).ext (Ext.drewN' _ 1)); have K8 := Lib.hid (show Blk w1 (wr.heap.size + 1) 118 [.string s, .pointer (some ⟨a, 0, none⟩)] by rw [hw1]; have k := (blk_new0 (wr.alloc (.cells #[.string t, .pointer (some ⟨b, 0, none⟩)] 118)) 118 [.string s, .pointer (some ⟨a, 0, none⟩)]).ext (Ext.drewN' _ 1); rw [show (wr.alloc (.cells #[.string t, .pointer (some ⟨b, 0, none⟩)] 118)).heap.size = wr.heap.size + 1 by simp] at k; exact k); have HE1 := Lib.hid (show Ext wr w1 by rw [hw1]; exact ((Ext.alloc' _ _).trans' (Ext.alloc' _ _)).trans' (Ext.drewN' _ 1)); generalize wr.heap.size + 1 = G8 at K8 ⊢; generalize wr.heap.size = G9 at K9 ⊢; clear hw1 g1 g2 cs0 cs1 ct0 ct1))
        all_goals (
          clear b0 b1 b2 b3 b4 b5 b6 b7
          have K8c := dcells_two K8.out; have K9c := dcells_two K9.out
          obtain ⟨c80, c81, l8⟩ := K8c; obtain ⟨c90, c91, l9⟩ := K9c
          cases hk : keyLt s t
          · cases hk2 : keyLt t s
            · obtain rfl := keyLt_tri hk hk2
              obtain rfl : r = 0 := by rw [HR.out, hk]; rfl
              have HKK := Lib.hid hk
              have HADD := Lib.hid (fun (W : World) (e : Ext wr W) => tdAdd s a b y z W (HBA.out.ext e) (HBB.out.ext e) (HS.out rfl).1 (HS.out rfl).2.1 (HS.out rfl).2.2 (TT.out.ext (HE.out.trans' e)))
              clear hk hk2
              go_wp2_with (fail)
              go_at_call 162
              refine (HADD.out _ HE1.out).mono ?_
              rintro e w2 ⟨b2, rfl, hB2, hE2⟩
              have HB2 := Lib.hid hB2.k
              have HE2 := Lib.hid (HE1.out.trans' hE2)
              have HI := Lib.hid (fun (W : World) (e : Ext w2 W) => tdIsZero s b2 (y + z) W (HB2.out.ext e))
              rw [dsgn_zero] at HI
              obtain ⟨v, hv⟩ : ∃ v, v = y + z := ⟨_, rfl⟩
              have HVV := Lib.hid hv
              rw [← hv] at HI HB2
              clear hB2 hE2 c80 c81 l8 c90 c91 l9 hv
              by_cases h0 : v = 0
              · rw [decide_eq_true h0] at HI
                have H0 := Lib.hid (show y + z = 0 by rw [← HVV.out]; exact h0); clear h0
                go_wp2_with (fail)
                go_at_call 84
                refine (HI.out _ (ext1 _ _)).mono ?_
                rintro e w3 ⟨rfl, hE⟩
                have HE3 := Lib.hid ((HE2.out.trans' (ext1 _ _)).trans' hE); clear hE
                go_wp2
                go_roundw
                case rel =>
                  refine ⟨p + 1, q + 1, cs, by omega, by omega, by go_num, by go_num, by have := HC.out; (try simp); omega, ?_, HO.out.ext HE3.out, HE.out.trans' HE3.out⟩
                  have hv := HV.out; rw [ddrop_at (l := la.map Co.val) (by simpa using hkp), ddrop_at (l := lb.map Co.val) (by simpa using hkq), HX.out, HY.out, dmrg_cons, if_neg (by rw [HKK.out]; simp), if_neg (by rw [HKK.out]; simp)] at hv
                  rw [show vnz [(s, y + z)] = [] by unfold vnz; simp [H0.out], List.nil_append] at hv; simpa [HX.out, HY.out, ddrop_at (l := la.map Co.val) (show p < (la.map Co.val).length by simpa using hkp), ddrop_at (l := lb.map Co.val) (show q < (lb.map Co.val).length by simpa using hkq)] using hv
                case measure => simp [intOf]; omega
              · rw [decide_eq_false h0] at HI
                have H0 := Lib.hid (show ¬ y + z = 0 by rw [← HVV.out]; exact h0); clear h0
                go_wp2_with (fail)
                go_at_call 84
                refine (HI.out _ (ext1 _ _)).mono ?_
                rintro e w3 ⟨rfl, hE⟩
                have HE3 := Lib.hid ((HE2.out.trans' (ext1 _ _)).trans' hE)
                have HB3 := Lib.hid (HB2.out.ext ((ext1 _ _).trans' hE))
                obtain ⟨p0, p1, m11⟩ := dcells_two ((blk_new0 w2 118 [.string s, .pointer (some ⟨b2, 0, none⟩)]).ext hE)
                clear hE
                go_wp2_with (first | (at_builtin; refine wpList_append_own_at _ rfl (.tmp 71) (.tmp 73) 78 rfl w.heap.size 118 i0 _ 2 24 Tryz.underlying78 hi hz0 hz1 hz2 rfl (by decide) u5 cs.length (flat2 (cs.map Co.pair)) rfl (owns_ext (HO.out.ext HE3.out).1 (ext1 _ _)) ⟨w3.heap.size, 0, none⟩ 1 1 [.string s, .pointer (some ⟨b2, 0, none⟩)] rfl rfl (cell_two_new _ _ _ _) (two_one _ _ rfl rfl) (by have := HC.out; unfold maxLen; omega) (by have := HC.out; omega) (by have := HE.out.size; have := (HE3.out).size; simp; omega) ?_; intro v' w5 hown hgrow _ _; have R := Lib.hid (dcoins_push ((HO.out.ext HE3.out).ext (ext1 _ _)) (HB3.out.ext (ext1 _ _)) ((HE.out.trans' HE3.out).trans' (ext1 _ _)) hown hgrow); clear hown hgrow))
                go_roundw
                case rel =>
                  refine ⟨p + 1, q + 1, cs ++ [⟨s, b2, v⟩], by omega, by omega, by go_num, by go_num, by have := HC.out; (try simp); omega, ?_, R.out.1, R.out.2⟩
                  have hv := HV.out; rw [ddrop_at (l := la.map Co.val) (by simpa using hkp), ddrop_at (l := lb.map Co.val) (by simpa using hkq), HX.out, HY.out, dmrg_cons, if_neg (by rw [HKK.out]; simp), if_neg (by rw [HKK.out]; simp)] at hv
                  rw [show vnz [(s, y + z)] = [(s, y + z)] by unfold vnz; simp [H0.out]] at hv; rw [List.map_append, List.append_assoc]; simpa [Co.val, HVV.out, HX.out, HY.out, ddrop_at (l := la.map Co.val) (show p < (la.map Co.val).length by simpa using hkp), ddrop_at (l := lb.map Co.val) (show q < (lb.map Co.val).length by simpa using hkq)] using hv
                case measure => simp [intOf]; omega
            · obtain rfl : r = 1 := by rw [HR.out, hk, hk2]; rfl
              have HK1 := Lib.hid hk; have HK2 := Lib.hid hk2
              clear hk hk2
              by_cases h0 : z = 0
              · rw [decide_eq_true h0] at HIZ
                have H0 := Lib.hid h0; clear h0
                go_wp2_with (fail)
                go_at_call 84
                refine (HIZ.out _ HE1.out).mono ?_
                rintro e w3 ⟨rfl, hE⟩
                have HE3 := Lib.hid (HE1.out.trans' hE); clear hE c80 c81 l8 c90 c91 l9
                go_wp2
                go_roundw
                case rel =>
                  refine ⟨p, q + 1, cs, by omega, by omega, by go_num, by go_num, by have := HC.out; (try simp); omega, ?_, HO.out.ext HE3.out, HE.out.trans' HE3.out⟩
                  have hv := HV.out; rw [ddrop_at (l := la.map Co.val) (by simpa using hkp), ddrop_at (l := lb.map Co.val) (by simpa using hkq), HX.out, HY.out, dmrg_cons, if_neg (by rw [HK1.out]; simp), if_pos HK2.out] at hv
                  rw [show vnz [(t, z)] = [] by unfold vnz; simp [H0.out], List.nil_append] at hv; simpa [HX.out, HY.out, ddrop_at (l := la.map Co.val) (show p < (la.map Co.val).length by simpa using hkp), ddrop_at (l := lb.map Co.val) (show q < (lb.map Co.val).length by simpa using hkq)] using hv
                case measure => simp [intOf]; omega
              · rw [decide_eq_false h0] at HIZ
                have H0 := Lib.hid h0; clear h0
                go_wp2_with (fail)
                go_at_call 84
                refine (HIZ.out _ HE1.out).mono ?_
                rintro e w3 ⟨rfl, hE⟩
                have HE3 := Lib.hid (HE1.out.trans' hE)
                obtain ⟨p0, p1, m11⟩ := dcells_two (K9.out.ext hE)
                clear hE c80 c81 l8 c90 c91 l9
                go_wp2_with (first | (at_builtin; refine wpList_append_own_at _ rfl (.tmp 84) (.tmp 86) 78 rfl w.heap.size 118 i0 _ 2 24 Tryz.underlying78 hi hz0 hz1 hz2 rfl (by decide) u5 cs.length (flat2 (cs.map Co.pair)) rfl (owns_ext (HO.out.ext HE3.out).1 (ext1 _ _)) ⟨w3.heap.size, 0, none⟩ 1 1 [.string t, .pointer (some ⟨b, 0, none⟩)] rfl rfl (cell_two_new _ _ _ _) (two_one _ _ rfl rfl) (by have := HC.out; unfold maxLen; omega) (by have := HC.out; omega) (by have := HE.out.size; have := (HE3.out).size; simp; omega) ?_; intro v' w5 hown hgrow _ _; have R := Lib.hid (dcoins_push ((HO.out.ext HE3.out).ext (ext1 _ _)) ((HBB.out.ext HE3.out).ext (ext1 _ _)) ((HE.out.trans' HE3.out).trans' (ext1 _ _)) hown hgrow); clear hown hgrow))
                go_roundw
                case rel =>
                  refine ⟨p, q + 1, cs ++ [⟨t, b, z⟩], by omega, by omega, by go_num, by go_num, by have := HC.out; (try simp); omega, ?_, R.out.1, R.out.2⟩
                  have hv := HV.out; rw [ddrop_at (l := la.map Co.val) (by simpa using hkp), ddrop_at (l := lb.map Co.val) (by simpa using hkq), HX.out, HY.out, dmrg_cons, if_neg (by rw [HK1.out]; simp), if_pos HK2.out] at hv
                  rw [show vnz [(t, z)] = [(t, z)] by unfold vnz; simp [H0.out]] at hv; rw [List.map_append, List.append_assoc]; simpa [Co.val, HX.out, HY.out, ddrop_at (l := la.map Co.val) (show p < (la.map Co.val).length by simpa using hkp), ddrop_at (l := lb.map Co.val) (show q < (lb.map Co.val).length by simpa using hkq)] using hv
                case measure => simp [intOf]; omega
          · obtain rfl : r = -1 := by rw [HR.out, hk]; rfl
            have HK1 := Lib.hid hk
            clear hk
            by_cases h0 : y = 0
            · rw [decide_eq_true h0] at HIY
              have H0 := Lib.hid h0; clear h0
              go_wp2_with (fail)
              go_at_call 84
              refine (HIY.out _ HE1.out).mono ?_
              rintro e w3 ⟨rfl, hE⟩
              have HE3 := Lib.hid (HE1.out.trans' hE); clear hE c80 c81 l8 c90 c91 l9
              go_wp2
              go_roundw
              case rel =>
                refine ⟨p + 1, q, cs, by omega, by omega, by go_num, by go_num, by have := HC.out; (try simp); omega, ?_, HO.out.ext HE3.out, HE.out.trans' HE3.out⟩
                have hv := HV.out; rw [ddrop_at (l := la.map Co.val) (by simpa using hkp), ddrop_at (l := lb.map Co.val) (by simpa using hkq), HX.out, HY.out, dmrg_cons, if_pos HK1.out] at hv
                rw [show vnz [(s, y)] = [] by unfold vnz; simp [H0.out], List.nil_append] at hv; simpa [HX.out, HY.out, ddrop_at (l := la.map Co.val) (show p < (la.map Co.val).length by simpa using hkp), ddrop_at (l := lb.map Co.val) (show q < (lb.map Co.val).length by simpa using hkq)] using hv
              case measure => simp [intOf]; omega
            · rw [decide_eq_false h0] at HIY
              have H0 := Lib.hid h0; clear h0
              go_wp2_with (fail)
              go_at_call 84
              refine (HIY.out _ HE1.out).mono ?_
              rintro e w3 ⟨rfl, hE⟩
              have HE3 := Lib.hid (HE1.out.trans' hE)
              obtain ⟨p0, p1, m11⟩ := dcells_two (K8.out.ext hE)
              clear hE c80 c81 l8 c90 c91 l9
              go_wp2_with (first | (at_builtin; refine wpList_append_own_at _ rfl (.tmp 57) (.tmp 59) 78 rfl w.heap.size 118 i0 _ 2 24 Tryz.underlying78 hi hz0 hz1 hz2 rfl (by decide) u5 cs.length (flat2 (cs.map Co.pair)) rfl (owns_ext (HO.out.ext HE3.out).1 (ext1 _ _)) ⟨w3.heap.size, 0, none⟩ 1 1 [.string s, .pointer (some ⟨a, 0, none⟩)] rfl rfl (cell_two_new _ _ _ _) (two_one _ _ rfl rfl) (by have := HC.out; unfold maxLen; omega) (by have := HC.out; omega) (by have := HE.out.size; have := (HE3.out).size; simp; omega) ?_; intro v' w5 hown hgrow _ _; have R := Lib.hid (dcoins_push ((HO.out.ext HE3.out).ext (ext1 _ _)) ((HBA.out.ext HE3.out).ext (ext1 _ _)) ((HE.out.trans' HE3.out).trans' (ext1 _ _)) hown hgrow); clear hown hgrow))
              go_roundw
              case rel =>
                refine ⟨p + 1, q, cs ++ [⟨s, a, y⟩], by omega, by omega, by go_num, by go_num, by have := HC.out; (try simp); omega, ?_, R.out.1, R.out.2⟩
                have hv := HV.out; rw [ddrop_at (l := la.map Co.val) (by simpa using hkp), ddrop_at (l := lb.map Co.val) (by simpa using hkq), HX.out, HY.out, dmrg_cons, if_pos HK1.out] at hv
                rw [show vnz [(s, y)] = [(s, y)] by unfold vnz; simp [H0.out]] at hv; rw [List.map_append, List.append_assoc]; simpa [Co.val, HX.out, HY.out, ddrop_at (l := la.map Co.val) (show p < (la.map Co.val).length by simpa using hkp), ddrop_at (l := lb.map Co.val) (show q < (lb.map Co.val).length by simpa using hkq)] using hv
              case measure => simp [intOf]; omega
        )
      · obtain ⟨g, o, hA, -⟩ := HPA.out.1 (by intro e; have h9 := congrArg List.length e; rw [List.length_map, HLA.out] at h9; simp at h9; omega)
        subst hA
        have kl : (la.drop p).length = n - p := by rw [List.length_drop, HLA.out]
        have HRZ := Lib.hid (tdRemoveZero (some ⟨g, o + p * 2, none⟩) (n - p) (c - p) (la.drop p) wr kl (by omega) ((HPA.out.ext HE.out).drop p))
        have HKL := Lib.hid kl
        obtain rfl : q = m := by omega
        have b0 : (0 : Int) ≤ (p : Int) := by omega
        have b1 : (p : Int) < (n : Int) := by omega
        have b2 : ¬ (p : Int) = (n : Int) := by omega
        have b3 : ¬ c = p := by omega
        have b4 : (p : Int) ≤ (n : Int) := by omega
        have b5 : (n : Int) ≤ (c : Int) := by omega
        clear kl
        go_wp2_with (first | (go_at_call 160; refine HRZ.out.mono ?_; rintro e w1 ⟨v1, rfl, ho, hE⟩; obtain ⟨A1, c1, rfl, hc1⟩ := down_cap ho.1; have HA1 := Lib.hid (dcoinsAt_own ho rfl); have HE1 := Lib.hid hE; have NL := Lib.hid (show (dnz (la.drop p)).length ≤ 100000 from Nat.le_trans (List.length_filter_le _ _) (by rw [HKL.out]; omega)); clear ho hE) | (at_builtin; refine wpList_append_dcoins rfl (.tmp 33) (.tmp 37) 78 79 rfl w.heap.size i0 _ Tryz.underlying78 Tryz.underlying79 hi hz0 hz1 hz2 rfl u5 cs rfl (HO.out.ext HE1.out) _ _ _ (dnz (la.drop p)) rfl rfl HA1.out (by have := HC.out; have := NL.out; omega) (by have := HE.out.size; have := HE1.out.size; omega) ?_; intro v' w2 hown hext; have R := Lib.hid hown; have HE2 := Lib.hid (hext _ (HE.out.trans' HE1.out) (Nat.le_refl _)); clear hown hext))
        go_ret
        refine ⟨_, _, rfl, ?_, R.out, HE2.out⟩
        have hv := HV.out
        rw [show (lb.map Co.val).drop q = [] from List.drop_of_length_le (by rw [List.length_map, HLB.out]; omega), dmrg_nil] at hv
        rw [List.map_append, dnz_val, List.map_drop]; exact hv
    · by_cases hlt2 : q < m
      · obtain ⟨g, o, hA, -⟩ := HPB.out.1 (by intro e; have h9 := congrArg List.length e; rw [List.length_map, HLB.out] at h9; simp at h9; omega)
        subst hA
        have kl : (lb.drop q).length = m - q := by rw [List.length_drop, HLB.out]
        have HRZ := Lib.hid (tdRemoveZero (some ⟨g, o + q * 2, none⟩) (m - q) (d - q) (lb.drop q) wr kl (by omega) ((HPB.out.ext HE.out).drop q))
        have HKL := Lib.hid kl
        obtain rfl : p = n := by omega
        have b0 : (0 : Int) ≤ (q : Int) := by omega
        have b1 : (q : Int) < (m : Int) := by omega
        have b2 : ¬ (q : Int) = (m : Int) := by omega
        have b3 : ¬ d = q := by omega
        have b4 : (q : Int) ≤ (m : Int) := by omega
        have b5 : (m : Int) ≤ (d : Int) := by omega
        clear kl
        go_wp2_with (first | (go_at_call 160; refine HRZ.out.mono ?_; rintro e w1 ⟨v1, rfl, ho, hE⟩; obtain ⟨A1, c1, rfl, hc1⟩ := down_cap ho.1; have HA1 := Lib.hid (dcoinsAt_own ho rfl); have HE1 := Lib.hid hE; have NL := Lib.hid (show (dnz (lb.drop q)).length ≤ 100000 from Nat.le_trans (List.length_filter_le _ _) (by rw [HKL.out]; omega)); clear ho hE) | (at_builtin; refine wpList_append_dcoins rfl (.tmp 24) (.tmp 28) 78 79 rfl w.heap.size i0 _ Tryz.underlying78 Tryz.underlying79 hi hz0 hz1 hz2 rfl u5 cs rfl (HO.out.ext HE1.out) _ _ _ (dnz (lb.drop q)) rfl rfl HA1.out (by have := HC.out; have := NL.out; omega) (by have := HE.out.size; have := HE1.out.size; omega) ?_; intro v' w2 hown hext; have R := Lib.hid hown; have HE2 := Lib.hid (hext _ (HE.out.trans' HE1.out) (Nat.le_refl _)); clear hown hext))
        go_ret
        refine ⟨_, _, rfl, ?_, R.out, HE2.out⟩
        have hv := HV.out
        rw [show (la.map Co.val).drop p = [] from List.drop_of_length_le (by rw [List.length_map, HLA.out]; omega), dmrg_nil'] at hv
        rw [List.map_append, dnz_val, List.map_drop]; exact hv
      · obtain rfl : p = n := by omega
        obtain rfl : q = m := by omega
        go_wp2
        go_ret
        have hv := HV.out
        rw [show (lb.map Co.val).drop q = [] from List.drop_of_length_le (by rw [List.length_map, HLB.out]; omega), show (la.map Co.val).drop p = [] from List.drop_of_length_le (by rw [List.length_map, HLA.out]; omega), dmrg_nil, show vnz [] = [] from rfl, List.append_nil] at hv
        exact ⟨_, cs, rfl, hv, HO.out, HE.out⟩
end Go.Proofs.YtcoffndnfaemoaaGreatDoor
