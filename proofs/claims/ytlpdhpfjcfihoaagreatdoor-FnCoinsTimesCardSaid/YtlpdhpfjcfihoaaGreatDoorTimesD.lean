/-
  Contract of Coins.SafeQuoInt of coins that are in order.
-/
import Derived.Test.YtlpdhpfjcfihoaaGreatDoorTimesC
import Derived.Deep.AppendLies
namespace Go.Proofs.YtlpdhpfjcfihoaaGreatDoor
open Go Go.RowKit

theorem owns_low {w : World} {base base' n k : Nat} {E : TypeId} {v : Value} {xs : List Value} (h : w.ownsRow base E k v n xs) (hb : base' ≤ base) : w.ownsRow base' E k v n xs := by
  refine ⟨h.1, ?_⟩
  rcases h.2 with h2 | ⟨g, cap, cur, hv, hg, r⟩
  · exact Or.inl h2
  · exact Or.inr ⟨g, cap, cur, hv, Nat.le_trans hb hg, r⟩
/-- Coins over m handed back. -/
def RetQuo (l : List Co) (m : Int) (w : World) (e : Ending) (w' : World) : Prop :=
  ∃ v L, e = .returned (.tuple #[v, .bool true]) ∧ CoinsOwn w' w.heap.size v L ∧ L.map Co.val = l.map (fun c => (c.s, Int.tdiv c.z m)) ∧ Ext w w'

set_option maxRecDepth 100000 in
set_option maxHeartbeats 2000000 in
theorem tSafeQuoInt (A : Option Addr) (n c : Nat) (l : List Co) (nb : Nat) (m : Int) (w : World) (hl : l.length = n) (hn : n ≤ 100000) (h : CoinsAt w A l) (hm : BigAt w nb m) (hm0 : 0 < m) (hmB : m.natAbs < B64)
    (hz : ∀ x ∈ l, denomB x.s = true ∧ x.s.size ≤ 9223372036854775807 ∧ 0 ≤ x.z ∧ x.z.natAbs < B64) :
    Calls Tryz.prog 69 #[.slice A n c, .agg #[.pointer (some ⟨nb, 0, none⟩)]] w (RetQuo l m w) := by
  obtain ⟨i0, hi, hz0, hz1, hz2⟩ := info_parts infoCoin
  have HL := Lib.hid hl; have HP := Lib.hid h; have HZ := Lib.hid hz; have HM := Lib.hid hm
  have HI := Lib.hid (mIsZero nb m _ (hm.ext (ext1 w (intBox nb))))
  rw [show (sgn m == 0) = false from sgn_ne (by omega)] at HI
  have hne : m ≠ 0 := by omega
  clear hl h hz hm
  go_enter Tryz.func69, Tryz.ntmps69
  go_wp2_with (go_at_call 111; refine HI.out.mono ?_; rintro e w0 ⟨rfl, hE⟩; have HE0 := Lib.hid hE; clear hE)
  have E0 := Lib.hid ((ext1 w (intBox nb)).trans' HE0.out)
  go_loopw [6, 13] (fun v i wr => ∃ (k : Nat) (cs : List Co), k ≤ n ∧ i = .int .i64 k ∧ cs.length = k ∧ cs.map Co.val = (l.map (fun c => (c.s, Int.tdiv c.z m))).take k ∧ CoinsOwn wr w0.heap.size v cs ∧ Ext w0 wr) (fun _ i _ => n - (intOf i).toNat)
  case atStart => exact ⟨0, [], Nat.zero_le _, rfl, rfl, rfl, CoinsOwn.nil _ _, Ext.refl _⟩
  case round =>
    obtain ⟨k, cs, hk, rfl, hcl, hcv, hown, hEz⟩ := hrel
    have HC := Lib.hid hcl; have HV := Lib.hid hcv; have HO := Lib.hid hown; have HEZ := Lib.hid hEz; have HE := Lib.hid (E0.out.trans' hEz)
    clear hcl hcv hown hEz
    by_cases hlt : k < n
    · have hkl : k < l.length := by rw [HL.out]; exact hlt
      obtain ⟨s, hs⟩ : ∃ s, s = l[k].s := ⟨_, rfl⟩
      obtain ⟨b, hb⟩ : ∃ b, b = l[k].b := ⟨_, rfl⟩
      obtain ⟨z, hzz⟩ : ∃ z, z = l[k].z := ⟨_, rfl⟩
      obtain ⟨ga, o, hA, hc⟩ := HP.out.1 (by intro e; have := congrArg List.length e; simp at this; rw [this] at hkl; simp at hkl)
      subst hA
      have hck := hc k (by simpa using hkl)
      have cs0 : wr.cell? ⟨ga, o + k * 2, none⟩ = some (.string s) := HE.out.cell' (by rw [hck.1, hs]; simp [Co.pair])
      have cs1 : wr.cell? ⟨ga, o + k * 2 + 1, none⟩ = some (.pointer (some ⟨b, 0, none⟩)) := HE.out.cell' (by rw [hck.2, hb]; simp [Co.pair])
      have HB := Lib.hid (show BigAt (wr.alloc (coinBox s b)) b z by rw [hb, hzz]; exact ((HP.out.2 _ (List.getElem_mem hkl)).ext HE.out).ext (ext1 _ _))
      have HMW := Lib.hid (show BigAt (wr.alloc (coinBox s b)) nb m from (HM.out.ext HE.out).ext (ext1 _ _))
      have hok := HZ.out _ (List.getElem_mem hkl)
      rw [← hs, ← hzz] at hok
      have HK := Lib.hid hok
      have HX := Lib.hid (show (l.map (fun c => (c.s, Int.tdiv c.z m)))[k]'(by simpa using hkl) = (s, Int.tdiv z m) by simp [hs, hzz])
      have k1 := Lib.hid (blk_new0 wr 134 [.string s, .pointer (some ⟨b, 0, none⟩)])
      have kn : (wr.alloc (coinBox s b)).cell? ⟨w.heap.size, 0, none⟩ = some (.pointer (some ⟨nb, 0, none⟩)) := (HE0.out.trans' (HEZ.out.trans' (ext1 _ _))).cell' (((blk_new0 w 98 [.pointer (some ⟨nb, 0, none⟩)]).cell 0).trans rfl)
      clear hs hb hzz hck hc hok
      go_wp2
      go_region_law (first
        | (refine step_append_lies _ rfl (.tmp 17) (.tmp 25) 92 rfl w0.heap.size 134 i0 _ 2 24 Tryz.underlying92 hi hz0 hz1 hz2 rfl (by decide) u6 cs.length (flat2 (cs.map Co.pair)) rfl (owns_ext (HO.out.ext HE2.out).1 (ext1 _ _)) ⟨w2.heap.size, 0, none⟩ 1 1 [.string s, .pointer (some ⟨r2, 0, none⟩)] rfl rfl (cell_two_new _ _ _ _) (two_one _ _ rfl rfl) (by decide) (by have := HC.out; unfold maxLen; omega) (by have := HC.out; omega) (by have := HEZ.out.size; have := HE2.out.size; simp; omega) _ rfl ?_; intro g2 cap w3 hown hgrow _ _; have R := Lib.hid (coins_push ((HO.out.ext HE2.out).ext (ext1 _ _)) (HB2.out.ext (ext1 _ _)) ((HEZ.out.trans' HE2.out).trans' (ext1 _ _)) hown hgrow); clear hown hgrow)
        | (go_simp; go_at_call 116; refine (mQuo b nb z m _ (by exact HB.out.ext (Ext.drewN' _ 1)) (by exact HMW.out.ext (Ext.drewN' _ 1)) HK.out.2.2.2 hmB hne).mono ?_; rintro e w1 ⟨r, rfl, hB, hE⟩; have HB1 := Lib.hid hB; have HE1 := Lib.hid (Ext.undrew hE); have c0 : w1.cell? ⟨wr.heap.size, 0, none⟩ = some (.string s) := (((k1.out).ext HE1.out).cell 0).trans rfl; clear hB hE)
        | (go_simp; go_at_call 112; refine (tNewCoin s r (Int.tdiv z m) _ (by exact HB1.out) HK.out.1 (Int.tdiv_nonneg HK.out.2.2.1 (Int.le_of_lt hm0)) HK.out.2.1).mono ?_; rintro e w2 ⟨r2, rfl, hB, hE⟩; have HB2 := Lib.hid hB; have HE2 := Lib.hid ((ext1 _ _).trans' (HE1.out.trans' hE)); clear hB hE))
      all_goals go_wp2
      all_goals exact ⟨⟨k + 1, cs ++ [⟨s, r2, Int.tdiv z m⟩], by omega, by go_num, by simp [HC.out], by rw [List.map_append, HV.out, List.take_succ_eq_append_getElem (by simpa using hkl), HX.out]; rfl, R.out.1, R.out.2⟩, by simp [intOf]; omega⟩
    · obtain rfl : k = n := by omega
      go_wp2
      go_ret2
      exact ⟨_, cs, rfl, ⟨owns_low HO.out.1 E0.out.size, HO.out.2⟩, by rw [HV.out, List.take_of_length_le (by simp [HL.out])], HE.out⟩
end Go.Proofs.YtlpdhpfjcfihoaaGreatDoor
