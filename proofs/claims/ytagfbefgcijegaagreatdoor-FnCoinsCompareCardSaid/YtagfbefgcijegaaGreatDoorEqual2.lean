/-
  The contracts of Coins.Equal and impl.EqualOf of sets of less than 50 coins.
-/
import Derived.Test.YtagfbefgcijegaaGreatDoorGK
namespace Go.Proofs.YtagfbefgcijegaaGreatDoor
open Go Go.RowKit

set_option maxRecDepth 100000 in
set_option maxHeartbeats 2000000 in
theorem tEqualOrd {b1 b2 : Nat} {v v' : Value} {L0 M0 : List Co} {w : World} (h : CoinsOwn w b1 v L0) (h' : CoinsOwn w b2 v' M0) (hsep : ∀ g, v.ownBlock = some g → v'.ownBlock ≠ some g) (h1 : L0.length < 50) (h2 : M0.length < 50) (ho1 : InOrd L0) (ho2 : InOrd M0) (hz : ∀ x ∈ L0 ++ M0, x.z.natAbs < B64) :
    Calls Tryz.prog 77 #[v, v'] w (RetEqual b1 b2 L0 M0 w) := by
  obtain ⟨A, c, rfl⟩ := coins_shape h
  obtain ⟨B, d, rfl⟩ := coins_shape h'
  obtain ⟨n, hn⟩ : ∃ n, n = L0.length := ⟨_, rfl⟩
  obtain ⟨m, hm⟩ : ∃ m, m = M0.length := ⟨_, rfl⟩
  have HO := Lib.hid h; have HO' := Lib.hid h'; have HSEP := Lib.hid hsep; have HZ := Lib.hid hz; have HN := Lib.hid hn; have HM := Lib.hid hm
  rw [← hn] at HO HSEP ⊢
  rw [← hm] at HO' HSEP ⊢
  have h12 : n < 50 := by omega
  have h12' : m < 50 := by omega
  have HI1 := Lib.hid ho1; have HI2 := Lib.hid ho2
  clear h h' hsep hz hn hm h1 h2 ho1 ho2
  by_cases hnm : n = m
  · subst hnm
    go_enter Tryz.func77, Tryz.ntmps77
    go_wp2_with (fail)
    go_at_call 126
    refine (tSortRow2 HO.out (Or.inr ⟨by have := HN.out; omega, HI1.out⟩)).mono ?_
    rintro e w1 ⟨L, rfl, ho1, hp1, hs1, hg1⟩
    have HO1 := Lib.hid ho1; have HP1 := Lib.hid hp1; have HS1 := Lib.hid hs1; have HG1 := Lib.hid hg1
    have HK1 := Lib.hid (own_keep HO'.out HO.out hg1 HSEP.out)
    clear ho1 hp1 hs1 hg1
    go_wp2_with (fail)
    go_at_call 126
    refine (tSortRow2 HK1.out (Or.inr ⟨by have := HM.out; omega, HI2.out⟩)).mono ?_
    rintro e w2 ⟨M, rfl, ho2, hp2, hs2, hg2⟩
    have HO2 := Lib.hid ho2; have HP2 := Lib.hid hp2; have HS2 := Lib.hid hs2
    have HK2 := Lib.hid (own_keep HO1.out HK1.out hg2 (fun g hg e => HSEP.out g e hg))
    have HG := Lib.hid (fun w0 (e0 : Ext w0 w) hb1 hb2 => grown_old HK1.out hg2 (grown_old HO.out HG1.out e0 hb1) hb2)
    have HLn := Lib.hid (show L.length = n by rw [HP1.out.length_eq, ← HN.out])
    have HMn := Lib.hid (show M.length = n by rw [HP2.out.length_eq, ← HM.out])
    clear ho2 hp2 hs2 hg2
    go_wp2_with (fail)
    go_loopw [17] (fun i wr => ∃ (k : Nat), k ≤ n ∧ i = .int .i64 k ∧ (L.map Co.val).take k = (M.map Co.val).take k ∧ Ext w2 wr) (fun i _ => n - (intOf i).toNat)
    case atStart => exact ⟨0, Nat.zero_le _, rfl, rfl, Ext.refl _⟩
    case round =>
      obtain ⟨k, hk, rfl, hq, hE⟩ := hrel
      have HQ := Lib.hid hq; have HE := Lib.hid hE
      clear hq hE
      by_cases hlt : k < n
      · have hkl : k < L.length := by rw [HLn.out]; exact hlt
        have hkm : k < M.length := by rw [HMn.out]; exact hlt
        obtain ⟨s, hs⟩ : ∃ s, s = L[k].s := ⟨_, rfl⟩
        obtain ⟨a, ha⟩ : ∃ a, a = L[k].b := ⟨_, rfl⟩
        obtain ⟨y, hy⟩ : ∃ y, y = L[k].z := ⟨_, rfl⟩
        obtain ⟨t, ht⟩ : ∃ t, t = M[k].s := ⟨_, rfl⟩
        obtain ⟨b, hb⟩ : ∃ b, b = M[k].b := ⟨_, rfl⟩
        obtain ⟨z, hzz⟩ : ∃ z, z = M[k].z := ⟨_, rfl⟩
        have hat := (own_at HK2.out).1
        have hbt := (own_at HO2.out).1
        obtain ⟨g, o, hA, hc⟩ := hat.1 (by intro e; have := congrArg List.length e; simp at this; rw [this] at hkl; simp at hkl)
        obtain ⟨g', o', hB, hc'⟩ := hbt.1 (by intro e; have := congrArg List.length e; simp at this; rw [this] at hkm; simp at hkm)
        subst hA; subst hB
        have hck := hc k (by simpa using hkl)
        have hck' := hc' k (by simpa using hkm)
        have cs0 : wr.cell? ⟨g, o + k * 2, none⟩ = some (.string s) := HE.out.cell' (by rw [hck.1, hs]; simp [Co.pair])
        have cs1 : wr.cell? ⟨g, o + k * 2 + 1, none⟩ = some (.pointer (some ⟨a, 0, none⟩)) := HE.out.cell' (by rw [hck.2, ha]; simp [Co.pair])
        have ct0 : wr.cell? ⟨g', o' + k * 2, none⟩ = some (.string t) := HE.out.cell' (by rw [hck'.1, ht]; simp [Co.pair])
        have ct1 : wr.cell? ⟨g', o' + k * 2 + 1, none⟩ = some (.pointer (some ⟨b, 0, none⟩)) := HE.out.cell' (by rw [hck'.2, hb]; simp [Co.pair])
        have HA := Lib.hid (show BigAt wr a y by rw [ha, hy]; exact (hat.2 _ (List.getElem_mem hkl)).ext HE.out)
        have HB := Lib.hid (show BigAt wr b z by rw [hb, hzz]; exact (hbt.2 _ (List.getElem_mem hkm)).ext HE.out)
        have hyb : y.natAbs < B64 := by rw [hy]; exact HZ.out _ (List.mem_append_left _ (HP1.out.mem_iff.1 (List.getElem_mem hkl)))
        have hzb : z.natAbs < B64 := by rw [hzz]; exact HZ.out _ (List.mem_append_right _ (HP2.out.mem_iff.1 (List.getElem_mem hkm)))
        have HV := Lib.hid (show Co.val L[k] = (s, y) by rw [hs, hy]; rfl)
        have HV' := Lib.hid (show Co.val M[k] = (t, z) by rw [ht, hzz]; rfl)
        clear hs ha hy ht hb hzz hck hck' hc hc' hat hbt
        obtain ⟨r, hr⟩ : ∃ r, r = coinEq s t y z := ⟨_, rfl⟩
        have HEQ := Lib.hid (fun (W : World) (e : Ext wr W) => tEqual s t a b y z W (HA.out.ext e) (HB.out.ext e) hyb hzb)
        rw [← hr] at HEQ
        have HR := Lib.hid (hr.trans (coinEq_eq s t y z)); clear hr hyb hzb
        have b0 : (0 : Int) ≤ (k : Int) := by omega
        have b1 : (k : Int) < (n : Int) := by omega
        cases r
        · have F := Lib.hid (val_ne hkl hkm (by rw [HV.out, HV'.out]; exact of_decide_eq_false HR.out.symm))
          go_wp2
          go_region_law (first | (go_simp; go_at_call 127; refine (HEQ.out _ (by exact Ext.drewN' _ 1)).mono ?_; rintro e w3 ⟨rfl, hE⟩; have HE3 := Lib.hid (Ext.undrew hE); clear hE))
          all_goals go_wp2
          all_goals go_ret
          all_goals exact ⟨Or.inr ⟨L, M, HP1.out, HP2.out, HS1.out, HS2.out, by rw [F.out]; rfl⟩, fun w0 e0 h1 h2 => ((HG.out w0 e0 h1 h2).trans' HE.out).trans' HE3.out⟩
        · have F := Lib.hid (val_take hkl hkm HQ.out (by rw [HV.out, HV'.out]; exact of_decide_eq_true HR.out.symm))
          go_wp2
          go_region_law (first | (go_simp; go_at_call 127; refine (HEQ.out _ (by exact Ext.drewN' _ 1)).mono ?_; rintro e w3 ⟨rfl, hE⟩; have HE3 := Lib.hid (Ext.undrew hE); clear hE))
          all_goals go_wp2
          all_goals exact ⟨⟨k + 1, by omega, by go_num, F.out, HE.out.trans' HE3.out⟩, by simp [intOf]; omega⟩
      · obtain rfl : k = n := by omega
        have F := Lib.hid (show decide (L.map Co.val = M.map Co.val) = true by
          have := HQ.out
          rw [List.take_of_length_le (by simp; have := HLn.out; omega), List.take_of_length_le (by simp; have := HMn.out; omega)] at this
          simpa using this)
        go_wp2
        go_ret
        exact ⟨Or.inr ⟨L, M, HP1.out, HP2.out, HS1.out, HS2.out, by rw [F.out]; rfl⟩, fun w0 e0 h1 h2 => (HG.out w0 e0 h1 h2).trans' HE.out⟩
  · have d1 : ((n : Int) == (m : Int)) = false := by simp; omega
    go_enter Tryz.func77, Tryz.ntmps77
    go_wp2
    go_ret
    exact ⟨Or.inl ⟨by rw [← HN.out, ← HM.out]; exact hnm, rfl⟩, fun w0 e0 _ _ => e0⟩

theorem tEqualSet {b1 b2 : Nat} {v v' : Value} {L0 M0 : List Co} {w : World} (h : CoinsOwn w b1 v L0) (h' : CoinsOwn w b2 v' M0) (hsep : ∀ g, v.ownBlock = some g → v'.ownBlock ≠ some g) (h1 : L0.length < 50) (h2 : M0.length < 50)
    (hb : isB (L0.map Co.val) = true) (hb' : isB (M0.map Co.val) = true) (hz : ∀ x ∈ L0 ++ M0, x.z.natAbs < B64) :
    Calls Tryz.prog 77 #[v, v'] w fun e w' => e = .returned (.bool (decide (L0.map Co.val = M0.map Co.val))) ∧ ∀ w0, Ext w0 w → w0.heap.size ≤ b1 → w0.heap.size ≤ b2 → Ext w0 w' := by
  refine (tEqualOrd h h' hsep h1 h2 (inOrd_set hb) (inOrd_set hb') hz).mono ?_
  rintro e w' ⟨hr, hE⟩
  refine ⟨?_, hE⟩
  rcases hr with ⟨hne, rfl⟩ | ⟨L, M, hp, hp', hs, hs', rfl⟩
  · rw [decide_eq_false]; intro e
    exact hne (by have := congrArg List.length e; simpa using this)
  · obtain rfl := set_self hb (by rw [nz_set hb]; exact hp) hs
    obtain rfl := set_self hb' (by rw [nz_set hb']; exact hp') hs'
    rfl

set_option maxRecDepth 100000 in
set_option maxHeartbeats 1000000 in
theorem iEqualSet (A B : Option Addr) (n c m d : Nat) (l l' : List (ByteArray × Int)) (w : World) (hl : l.length = n) (hl' : l'.length = m) (hn : n < 50) (hm : m < 50) (h : PlainAt w A l) (h' : PlainAt w B l') (hz : ∀ x ∈ l, -maxI ≤ x.2 ∧ x.2 ≤ maxI) (hz' : ∀ x ∈ l', -maxI ≤ x.2 ∧ x.2 ≤ maxI) (hb : isB l = true) (hb' : isB l' = true) :
    Calls Tryz.prog 30 #[.slice A n c, .slice B m d] w (RetE (.bool (decide (l = l'))) w) := by
  have H1 := Lib.hid (iCoins A n c l w hl (by omega) h hz)
  have H2 := Lib.hid (fun (W : World) (e : Ext w W) => iCoins B m d l' W hl' (by omega) (h'.ext e) hz')
  have HL := Lib.hid hl; have HL' := Lib.hid hl'; have HZ := Lib.hid hz; have HZ' := Lib.hid hz'
  have HB := Lib.hid (And.intro hb hb')
  clear hl hl' h h' hz hz' hb hb'
  obtain ⟨q, hq⟩ : ∃ q, q = decide (l = l') := ⟨_, rfl⟩
  rw [← hq]
  have HQ := Lib.hid hq; clear hq
  go_enter Tryz.func30, Tryz.ntmps30
  go_wp2_with (fail)
  go_at_call 72
  refine H1.out.mono ?_
  rintro e w1 ⟨v, cs, rfl, hcv, hown, hE⟩
  have HV := Lib.hid hcv; have HO := Lib.hid hown; have HE := Lib.hid hE; have HN := Lib.hid (show cs.length = n by rw [← HL.out, ← hcv]; simp)
  clear hcv hown hE
  go_wp2_with (fail)
  go_at_call 72
  refine (H2.out _ HE.out).mono ?_
  rintro e w2 ⟨v2, cs2, rfl, hcv2, hown2, hE2⟩
  have HV2 := Lib.hid hcv2; have HO2 := Lib.hid hown2; have HE2 := Lib.hid hE2; have HN2 := Lib.hid (show cs2.length = m by rw [← HL'.out, ← hcv2]; simp)
  clear hcv2 hown2 hE2
  go_wp2_with (fail)
  go_at_call 77
  refine (tEqualSet (HO.out.ext HE2.out) HO2.out (fun g hg e => by have := (own_block HO.out g hg).2; have := (own_block HO2.out g e).1; omega) (by have := HN.out; omega) (by have := HN2.out; omega) (by rw [HV.out]; exact HB.out.1) (by rw [HV2.out]; exact HB.out.2) (both2 (val_bound HV.out HZ.out) (val_bound HV2.out HZ'.out))).mono ?_
  rintro e w3 ⟨rfl, hE3⟩
  have HE3 := Lib.hid (hE3 w (HE.out.trans' HE2.out) (Nat.le_refl _) HE.out.size)
  clear hE3
  rw [HV.out, HV2.out, ← HQ.out]
  go_wp2
  go_ret
  exact ⟨rfl, HE3.out⟩
end Go.Proofs.YtagfbefgcijegaaGreatDoor
