/-
  The contracts of Coins.Equal and impl.EqualOf.
-/
import Derived.Test.YtagfbefgcijegaaGreatDoorSortOf
import Derived.Test.YtagfbefgcijegaaGreatDoorCoin2
import Derived.Test.YtagfbefgcijegaaGreatDoorLKit
namespace Go.Proofs.YtagfbefgcijegaaGreatDoor
open Go Go.RowKit

/-- Sorted in a row of the call's own; nothing but that row has turned. -/
def RetSortRow (base : Nat) (v : Value) (L0 : List Co) (w : World) (e : Ending) (w' : World) : Prop :=
  ∃ L, e = .returned v ∧ CoinsOwn w' base v L ∧ L.Perm L0 ∧ (L.Pairwise fun a b => le (Co.s a) (Co.s b)) ∧ w.grownBy w' v.ownBlock
theorem tSortRow {base : Nat} {v : Value} {L0 : List Co} {w : World} (h : CoinsOwn w base v L0) (hn : L0.length ≤ 12) : Calls Tryz.prog 126 #[v] w (RetSortRow base v L0 w) := by
  rcases h.1.2 with ⟨hv, hn0⟩ | ⟨g, cap, cur, hv, hbg, hgb, hnc, hcm, hcs, hct⟩
  · subst hv
    obtain rfl : L0 = [] := List.length_eq_zero_iff.1 hn0
    refine (tSortNil w).mono ?_
    rintro e w' ⟨rfl, rfl⟩
    exact ⟨[], rfl, CoinsOwn.nil _ _, List.Perm.refl _, List.Pairwise.nil, World.grownBy.refl _ _⟩
  · subst hv
    have hrow := row_of_own hgb hct
    refine (tSort g L0.length cap L0 _ w hrow rfl (Or.inl hn)).mono ?_
    rintro e w' ⟨rfl, L, hr, ho, hP, hS⟩
    have hl := hP.length_eq
    have h1 : (flat2 (L.map Co.pair)).length = L.length * 2 := by rw [flat2_length]; simp
    refine ⟨L, rfl, ⟨⟨by rw [flat2_length]; simp, Or.inr ⟨g, cap, (flat2 (L.map Co.pair) ++ cur.toList.drop (L0.length * 2)).toArray, by rw [hl], hbg, hr, by omega, hcm, ?_, ?_⟩⟩, fun x hx => (h.2 x (hP.mem_iff.1 hx)).only ho hrow⟩, hP, hS, ho⟩
    · simp [h1]; omega
    · rw [show (flat2 (L.map Co.pair) ++ cur.toList.drop (L0.length * 2)).toArray.toList = flat2 (L.map Co.pair) ++ cur.toList.drop (L0.length * 2) from rfl, List.take_append_of_le_length (by omega), List.take_of_length_le (by omega)]
/-- Another row stays. -/
theorem own_keep {w w' : World} {base b2 : Nat} {v v2 : Value} {L M : List Co} (h2 : CoinsOwn w b2 v2 M) (h : CoinsOwn w base v L) (hg : w.grownBy w' v.ownBlock) (hne : ∀ g, v.ownBlock = some g → v2.ownBlock ≠ some g) : CoinsOwn w' b2 v2 M := by
  refine ⟨⟨h2.1.1, ?_⟩, fun x hx => (h2.2 x hx).grown h.1 hg⟩
  rcases h2.1.2 with hn | ⟨g, cap, cur, hv, hb, hh, r⟩
  · exact Or.inl hn
  · refine Or.inr ⟨g, cap, cur, hv, hb, ?_, r⟩
    rw [← hh]
    refine hg.block g (Array.getElem?_eq_some_iff.1 hh).1 fun e => hne g e.symm ?_
    rw [hv]; rfl
theorem own_block {w : World} {base : Nat} {v : Value} {L : List Co} (h : CoinsOwn w base v L) : ∀ g, v.ownBlock = some g → base ≤ g ∧ g < w.heap.size := by
  intro g hg
  rcases h.1.2 with ⟨hv, _⟩ | ⟨g', cap, cur, hv, hb, hh, _⟩
  · subst hv; simp [Value.ownBlock] at hg
  · subst hv
    simp [Value.ownBlock] at hg
    subst hg
    exact ⟨hb, (Array.getElem?_eq_some_iff.1 hh).1⟩
theorem grown_old {w w' : World} {base : Nat} {v : Value} {L : List Co} (h : CoinsOwn w base v L) (hg : w.grownBy w' v.ownBlock) {w0 : World} (e0 : Ext w0 w) (hb : w0.heap.size ≤ base) : Ext w0 w' :=
  Below.grown e0 hg e0.size (fun g hv => Nat.le_trans hb (own_block h g hv).1)

theorem coinEq_eq (s t : ByteArray) (y z : Int) : coinEq s t y z = decide ((s, y) = (t, z)) := by
  unfold coinEq
  rw [key_beq]
  by_cases h : s = t
  · subst h
    by_cases k : y = z
    · subst k; simp [cmpZ]
    · have : cmpZ y z ≠ 0 := by unfold cmpZ; split; · decide
                                split; · decide
                                omega
      simp [k, this]
  · simp [h]

/-- Two lists held against each other: of different lengths; or sorted, and then coin by coin. -/
def RetEqual (b1 b2 : Nat) (L0 M0 : List Co) (w : World) (e : Ending) (w' : World) : Prop :=
  ((L0.length ≠ M0.length ∧ e = .returned (.bool false)) ∨ ∃ L M : List Co, L.Perm L0 ∧ M.Perm M0 ∧ (L.Pairwise fun a b => le (Co.s a) (Co.s b)) ∧ (M.Pairwise fun a b => le (Co.s a) (Co.s b)) ∧ e = .returned (.bool (decide (L.map Co.val = M.map Co.val)))) ∧
  ∀ w0, Ext w0 w → w0.heap.size ≤ b1 → w0.heap.size ≤ b2 → Ext w0 w'
theorem val_take {L M : List Co} {k : Nat} (hk : k < L.length) (hk' : k < M.length) (h : (L.map Co.val).take k = (M.map Co.val).take k) (e : Co.val L[k] = Co.val M[k]) : (L.map Co.val).take (k + 1) = (M.map Co.val).take (k + 1) := by
  rw [List.take_succ_eq_append_getElem (by simpa using hk), List.take_succ_eq_append_getElem (by simpa using hk'), h]
  simp [e]
theorem val_ne {L M : List Co} {k : Nat} (hk : k < L.length) (hk' : k < M.length) (e : Co.val L[k] ≠ Co.val M[k]) : decide (L.map Co.val = M.map Co.val) = false := by
  rw [decide_eq_false_iff_not]; intro h
  have : (L.map Co.val)[k]? = (M.map Co.val)[k]? := by rw [h]
  rw [List.getElem?_eq_getElem (by simpa using hk), List.getElem?_eq_getElem (by simpa using hk')] at this
  simp at this; exact e this

set_option maxRecDepth 100000 in
set_option maxHeartbeats 2000000 in
theorem tEqualOwn {b1 b2 : Nat} {v v' : Value} {L0 M0 : List Co} {w : World} (h : CoinsOwn w b1 v L0) (h' : CoinsOwn w b2 v' M0) (hsep : ∀ g, v.ownBlock = some g → v'.ownBlock ≠ some g) (h1 : L0.length ≤ 12) (h2 : M0.length ≤ 12) (hz : ∀ x ∈ L0 ++ M0, x.z.natAbs < B64) :
    Calls Tryz.prog 77 #[v, v'] w (RetEqual b1 b2 L0 M0 w) := by
  obtain ⟨A, c, rfl⟩ := coins_shape h
  obtain ⟨B, d, rfl⟩ := coins_shape h'
  obtain ⟨n, hn⟩ : ∃ n, n = L0.length := ⟨_, rfl⟩
  obtain ⟨m, hm⟩ : ∃ m, m = M0.length := ⟨_, rfl⟩
  have HO := Lib.hid h; have HO' := Lib.hid h'; have HSEP := Lib.hid hsep; have HZ := Lib.hid hz; have HN := Lib.hid hn; have HM := Lib.hid hm
  rw [← hn] at HO HSEP ⊢
  rw [← hm] at HO' HSEP ⊢
  have h12 : n ≤ 12 := by omega
  have h12' : m ≤ 12 := by omega
  clear h h' hsep hz hn hm h1 h2
  by_cases hnm : n = m
  · subst hnm
    go_enter Tryz.func77, Tryz.ntmps77
    go_wp2_with (fail)
    go_at_call 126
    refine (tSortRow HO.out (by have := HN.out; omega)).mono ?_
    rintro e w1 ⟨L, rfl, ho1, hp1, hs1, hg1⟩
    have HO1 := Lib.hid ho1; have HP1 := Lib.hid hp1; have HS1 := Lib.hid hs1; have HG1 := Lib.hid hg1
    have HK1 := Lib.hid (own_keep HO'.out HO.out hg1 HSEP.out)
    clear ho1 hp1 hs1 hg1
    go_wp2_with (fail)
    go_at_call 126
    refine (tSortRow HK1.out (by have := HM.out; omega)).mono ?_
    rintro e w2 ⟨M, rfl, ho2, hp2, hs2, hg2⟩
    have HO2 := Lib.hid ho2; have HP2 := Lib.hid hp2; have HS2 := Lib.hid hs2
    have HK2 := Lib.hid (own_keep HO1.out HK1.out hg2 (fun g hg e => HSEP.out g e hg))
    have HG := Lib.hid (fun w0 (e0 : Ext w0 w) hb1 hb2 => grown_old HK1.out hg2 (grown_old HO.out HG1.out e0 hb1) hb2)
    have HLn := Lib.hid (show L.length = n by rw [HP1.out.length_eq, ← HN.out])
    have HMn := Lib.hid (show M.length = n by rw [HP2.out.length_eq, ← HM.out])
    clear ho2 hp2 hs2 hg2
    go_wp2_with (fail)
    go_loopw [17] (fun i wr => ∃ (k : Nat), k ≤ n ∧ i = .int .i64 k ∧ (L.map Co.val).take k = (M.map Co.val).take k ∧ Ext w2 wr) (fun i _ => n - (intOf i).toNat)
    case atStart => exact ⟨0, Nat.zero_le _, rfl, rfl, Ext.refl _⟩
    case round =>
      obtain ⟨k, hk, rfl, hq, hE⟩ := hrel
      have HQ := Lib.hid hq; have HE := Lib.hid hE
      clear hq hE
      by_cases hlt : k < n
      · have hkl : k < L.length := by rw [HLn.out]; exact hlt
        have hkm : k < M.length := by rw [HMn.out]; exact hlt
        obtain ⟨s, hs⟩ : ∃ s, s = L[k].s := ⟨_, rfl⟩
        obtain ⟨a, ha⟩ : ∃ a, a = L[k].b := ⟨_, rfl⟩
        obtain ⟨y, hy⟩ : ∃ y, y = L[k].z := ⟨_, rfl⟩
        obtain ⟨t, ht⟩ : ∃ t, t = M[k].s := ⟨_, rfl⟩
        obtain ⟨b, hb⟩ : ∃ b, b = M[k].b := ⟨_, rfl⟩
        obtain ⟨z, hzz⟩ : ∃ z, z = M[k].z := ⟨_, rfl⟩
        have hat := (own_at HK2.out).1
        have hbt := (own_at HO2.out).1
        obtain ⟨g, o, hA, hc⟩ := hat.1 (by intro e; have := congrArg List.length e; simp at this; rw [this] at hkl; simp at hkl)
        obtain ⟨g', o', hB, hc'⟩ := hbt.1 (by intro e; have := congrArg List.length e; simp at this; rw [this] at hkm; simp at hkm)
        subst hA; subst hB
        have hck := hc k (by simpa using hkl)
        have hck' := hc' k (by simpa using hkm)
        have cs0 : wr.cell? ⟨g, o + k * 2, none⟩ = some (.string s) := HE.out.cell' (by rw [hck.1, hs]; simp [Co.pair])
        have cs1 : wr.cell? ⟨g, o + k * 2 + 1, none⟩ = some (.pointer (some ⟨a, 0, none⟩)) := HE.out.cell' (by rw [hck.2, ha]; simp [Co.pair])
        have ct0 : wr.cell? ⟨g', o' + k * 2, none⟩ = some (.string t) := HE.out.cell' (by rw [hck'.1, ht]; simp [Co.pair])
        have ct1 : wr.cell? ⟨g', o' + k * 2 + 1, none⟩ = some (.pointer (some ⟨b, 0, none⟩)) := HE.out.cell' (by rw [hck'.2, hb]; simp [Co.pair])
        have HA := Lib.hid (show BigAt wr a y by rw [ha, hy]; exact (hat.2 _ (List.getElem_mem hkl)).ext HE.out)
        have HB := Lib.hid (show BigAt wr b z by rw [hb, hzz]; exact (hbt.2 _ (List.getElem_mem hkm)).ext HE.out)
        have hyb : y.natAbs < B64 := by rw [hy]; exact HZ.out _ (List.mem_append_left _ (HP1.out.mem_iff.1 (List.getElem_mem hkl)))
        have hzb : z.natAbs < B64 := by rw [hzz]; exact HZ.out _ (List.mem_append_right _ (HP2.out.mem_iff.1 (List.getElem_mem hkm)))
        have HV := Lib.hid (show Co.val L[k] = (s, y) by rw [hs, hy]; rfl)
        have HV' := Lib.hid (show Co.val M[k] = (t, z) by rw [ht, hzz]; rfl)
        clear hs ha hy ht hb hzz hck hck' hc hc' hat hbt
        obtain ⟨r, hr⟩ : ∃ r, r = coinEq s t y z := ⟨_, rfl⟩
        have HEQ := Lib.hid (fun (W : World) (e : Ext wr W) => tEqual s t a b y z W (HA.out.ext e) (HB.out.ext e) hyb hzb)
        rw [← hr] at HEQ
        have HR := Lib.hid (hr.trans (coinEq_eq s t y z)); clear hr hyb hzb
        have b0 : (0 : Int) ≤ (k : Int) := by omega
        have b1 : (k : Int) < (n : Int) := by omega
        cases r
        · have F := Lib.hid (val_ne hkl hkm (by rw [HV.out, HV'.out]; exact of_decide_eq_false HR.out.symm))
          go_wp2
          go_region_law (first | (go_simp; go_at_call 127; refine (HEQ.out _ (by exact Ext.drewN' _ 1)).mono ?_; rintro e w3 ⟨rfl, hE⟩; have HE3 := Lib.hid (Ext.undrew hE); clear hE))
          all_goals go_wp2
          all_goals go_ret
          all_goals exact ⟨Or.inr ⟨L, M, HP1.out, HP2.out, HS1.out, HS2.out, by rw [F.out]; rfl⟩, fun w0 e0 h1 h2 => ((HG.out w0 e0 h1 h2).trans' HE.out).trans' HE3.out⟩
        · have F := Lib.hid (val_take hkl hkm HQ.out (by rw [HV.out, HV'.out]; exact of_decide_eq_true HR.out.symm))
          go_wp2
          go_region_law (first | (go_simp; go_at_call 127; refine (HEQ.out _ (by exact Ext.drewN' _ 1)).mono ?_; rintro e w3 ⟨rfl, hE⟩; have HE3 := Lib.hid (Ext.undrew hE); clear hE))
          all_goals go_wp2
          all_goals exact ⟨⟨k + 1, by omega, by go_num, F.out, HE.out.trans' HE3.out⟩, by simp [intOf]; omega⟩
      · obtain rfl : k = n := by omega
        have F := Lib.hid (show decide (L.map Co.val = M.map Co.val) = true by
          have := HQ.out
          rw [List.take_of_length_le (by simp; have := HLn.out; omega), List.take_of_length_le (by simp; have := HMn.out; omega)] at this
          simpa using this)
        go_wp2
        go_ret
        exact ⟨Or.inr ⟨L, M, HP1.out, HP2.out, HS1.out, HS2.out, by rw [F.out]; rfl⟩, fun w0 e0 h1 h2 => (HG.out w0 e0 h1 h2).trans' HE.out⟩
  · have d1 : ((n : Int) == (m : Int)) = false := by simp; omega
    go_enter Tryz.func77, Tryz.ntmps77
    go_wp2
    go_ret
    exact ⟨Or.inl ⟨by rw [← HN.out, ← HM.out]; exact hnm, rfl⟩, fun w0 e0 _ _ => e0⟩

theorem both2 {α : Type} {Q : α → Prop} {l m : List α} (h : ∀ x ∈ l, Q x) (k : ∀ x ∈ m, Q x) : ∀ x ∈ l ++ m, Q x := fun x hx => (List.mem_append.1 hx).elim (h x) (k x)
/-- Two plain lists held against each other. -/
def RetEqualOf (l l' : List (ByteArray × Int)) (w : World) (e : Ending) (w' : World) : Prop :=
  ((l.length ≠ l'.length ∧ e = .returned (.bool false)) ∨ ∃ r r' : List (ByteArray × Int), r.Perm l ∧ r'.Perm l' ∧ (r.Pairwise fun a b => le a.1 b.1) ∧ (r'.Pairwise fun a b => le a.1 b.1) ∧ e = .returned (.bool (decide (r = r')))) ∧ Ext w w'
theorem val_bound {cs : List Co} {l : List (ByteArray × Int)} (h : cs.map Co.val = l) (hz : ∀ x ∈ l, -maxI ≤ x.2 ∧ x.2 ≤ maxI) : ∀ x ∈ cs, x.z.natAbs < B64 := by
  intro x hx
  have := hz x.val (by rw [← h]; exact List.mem_map_of_mem hx)
  have e : x.val.2 = x.z := rfl
  rw [e] at this; unfold maxI at this; unfold B64; omega

set_option maxRecDepth 100000 in
set_option maxHeartbeats 1000000 in
theorem iEqualOf (A B : Option Addr) (n c m d : Nat) (l l' : List (ByteArray × Int)) (w : World) (hl : l.length = n) (hl' : l'.length = m) (hn : n ≤ 12) (hm : m ≤ 12) (h : PlainAt w A l) (h' : PlainAt w B l') (hz : ∀ x ∈ l, -maxI ≤ x.2 ∧ x.2 ≤ maxI) (hz' : ∀ x ∈ l', -maxI ≤ x.2 ∧ x.2 ≤ maxI) :
    Calls Tryz.prog 30 #[.slice A n c, .slice B m d] w (RetEqualOf l l' w) := by
  have H1 := Lib.hid (iCoins A n c l w hl (by omega) h hz)
  have H2 := Lib.hid (fun (W : World) (e : Ext w W) => iCoins B m d l' W hl' (by omega) (h'.ext e) hz')
  have HL := Lib.hid hl; have HL' := Lib.hid hl'; have HZ := Lib.hid hz; have HZ' := Lib.hid hz'
  clear hl hl' h h' hz hz'
  go_enter Tryz.func30, Tryz.ntmps30
  go_wp2_with (fail)
  go_at_call 72
  refine H1.out.mono ?_
  rintro e w1 ⟨v, cs, rfl, hcv, hown, hE⟩
  have HV := Lib.hid hcv; have HO := Lib.hid hown; have HE := Lib.hid hE; have HN := Lib.hid (show cs.length = n by rw [← HL.out, ← hcv]; simp)
  clear hcv hown hE
  go_wp2_with (fail)
  go_at_call 72
  refine (H2.out _ HE.out).mono ?_
  rintro e w2 ⟨v2, cs2, rfl, hcv2, hown2, hE2⟩
  have HV2 := Lib.hid hcv2; have HO2 := Lib.hid hown2; have HE2 := Lib.hid hE2; have HN2 := Lib.hid (show cs2.length = m by rw [← HL'.out, ← hcv2]; simp)
  clear hcv2 hown2 hE2
  go_wp2_with (fail)
  go_at_call 77
  refine (tEqualOwn (HO.out.ext HE2.out) HO2.out (fun g hg e => by have := (own_block HO.out g hg).2; have := (own_block HO2.out g e).1; omega) (by have := HN.out; omega) (by have := HN2.out; omega) (both2 (val_bound HV.out HZ.out) (val_bound HV2.out HZ'.out))).mono ?_
  rintro e w3 ⟨hres, hE3⟩
  have HE3 := Lib.hid (hE3 w (HE.out.trans' HE2.out) (Nat.le_refl _) HE.out.size)
  clear hE3
  rcases hres with ⟨hne, rfl⟩ | ⟨L, M, hp1, hp2, hs1, hs2, rfl⟩
  · go_wp2
    go_ret
    exact ⟨Or.inl ⟨by rw [HL.out, HL'.out, ← HN.out, ← HN2.out]; exact hne, rfl⟩, HE3.out⟩
  · have HR := Lib.hid (And.intro hp1 (And.intro hp2 (And.intro hs1 hs2)))
    clear hp1 hp2 hs1 hs2
    go_wp2
    go_ret
    exact ⟨Or.inr ⟨L.map Co.val, M.map Co.val, perm_plain HR.out.1 HV.out, perm_plain HR.out.2.1 HV2.out, by rw [List.pairwise_map]; exact HR.out.2.2.1, by rw [List.pairwise_map]; exact HR.out.2.2.2, rfl⟩, HE3.out⟩

theorem equal_fact {l l' : List (ByteArray × Int)} {w w' : World} {e : Ending} (h : RetEqualOf l l' w e w') (ho : onceB l = true) (ho' : onceB l' = true) :
    ∃ q : Bool, e = .returned (.bool q) ∧ (∀ ra rb : List (ByteArray × Int), ra.Perm l → (ra.Pairwise fun a b => le a.1 b.1) → rb.Perm l' → (rb.Pairwise fun a b => le a.1 b.1) → decide (ra = rb) = q) ∧ Ext w w' := by
  obtain ⟨h1, h2⟩ := h
  rcases h1 with ⟨hne, rfl⟩ | ⟨r, r', hp, hp', hs, hs', rfl⟩
  · refine ⟨false, rfl, fun ra rb h3 _ h5 _ => ?_, h2⟩
    rw [decide_eq_false_iff_not]; rintro rfl
    exact hne (h3.length_eq.symm.trans h5.length_eq)
  · refine ⟨_, rfl, fun ra rb h3 h4 h5 h6 => ?_, h2⟩
    rw [sorted_same h3 h4 hp hs ho, sorted_same h5 h6 hp' hs' ho']
end Go.Proofs.YtagfbefgcijegaaGreatDoor
