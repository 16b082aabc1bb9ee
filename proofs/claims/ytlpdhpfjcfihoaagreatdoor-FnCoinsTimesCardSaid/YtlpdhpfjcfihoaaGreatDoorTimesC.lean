/-
  Contract of Coins.SafeMulInt of coins that are in order.
-/
import Derived.Test.YtlpdhpfjcfihoaaGreatDoorTimesB
import Derived.Test.YtlpdhpfjcfihoaaGreatDoorFresh
import Derived.Test.YtlpdhpfjcfihoaaGreatDoorGC
namespace Go.Proofs.YtlpdhpfjcfihoaaGreatDoor
open Go Go.RowKit

theorem pair_set {ps : List (Value × Value)} {zs : List Value} {k : Nat} (a b : Value) (hk : ps.length = k) (hz : k * 2 + 2 ≤ zs.length) :
    ((flat2 ps ++ zs.drop (k * 2)).set (k * 2) a).set (k * 2 + 1) b = flat2 (ps ++ [(a, b)]) ++ zs.drop ((k + 1) * 2) := by
  have hl : (flat2 ps).length = k * 2 := by rw [flat2_length, hk]
  obtain ⟨x, y, t, ht⟩ : ∃ x y t, zs.drop (k * 2) = x :: y :: t := by
    have h1 : k * 2 < zs.length := by omega
    have h2 : k * 2 + 1 < zs.length := by omega
    exact ⟨zs[k * 2], zs[k * 2 + 1], zs.drop (k * 2 + 2), by rw [List.drop_eq_getElem_cons h1, List.drop_eq_getElem_cons h2]⟩
  have ht2 : zs.drop ((k + 1) * 2) = t := by
    have : zs.drop ((k + 1) * 2) = (zs.drop (k * 2)).drop 2 := by rw [List.drop_drop]; congr 1; omega
    rw [this, ht]; rfl
  rw [ht, ht2, List.set_append_right _ _ (by omega), hl, Nat.sub_self, List.set_cons_zero, List.set_append_right _ _ (by omega), hl, Nat.add_sub_cancel_left, flat2_append]
  simp [flat2]

/-- Coins times m handed back. -/
def RetMul (l : List Co) (m : Int) (w : World) (e : Ending) (w' : World) : Prop :=
  ∃ A L, e = .returned (.tuple #[.slice A L.length L.length, .bool true]) ∧ CoinsAt w' A L ∧ L.map Co.val = l.map (fun c => (c.s, c.z * m)) ∧ Ext w w'

set_option maxRecDepth 100000 in
set_option maxHeartbeats 2000000 in
theorem tSafeMulInt (A : Option Addr) (n c : Nat) (l : List Co) (nb : Nat) (m : Int) (w : World) (hl : l.length = n) (hn : n ≤ 100000) (h : CoinsAt w A l) (hm : BigAt w nb m) (hm0 : 0 < m) (hmB : m.natAbs < B64)
    (hz : ∀ x ∈ l, denomB x.s = true ∧ x.s.size ≤ 9223372036854775807 ∧ 0 ≤ x.z ∧ x.z.natAbs < B64 ∧ (x.z * m).natAbs < B64 ∧ x.b ≠ nb) :
    Calls Tryz.prog 66 #[.slice A n c, .agg #[.pointer (some ⟨nb, 0, none⟩)]] w (RetMul l m w) := by
  obtain ⟨i0, hi, hz0, hz1, hz2⟩ := info_parts infoCoin
  have HL := Lib.hid hl; have HP := Lib.hid h; have HZ := Lib.hid hz; have HM := Lib.hid hm
  have HI := Lib.hid (mIsZero nb m _ (hm.ext (ext1 w (intBox nb))))
  rw [show (sgn m == 0) = false from sgn_ne (by omega)] at HI
  have hmk : ∀ W : World, (Instr.makeSlice 92 (.int .i64 (n : Int)) (.int .i64 (n : Int))).run Tryz.prog W = .ok (.slice (some ⟨W.heap.size, 0, none⟩) n n) (W.alloc (.cells (madeCells (Value.agg #[.string ByteArray.empty, .pointer none]).cells (n * 2)) 134)) := fun W => by
    rw [run_make (P := Tryz.prog) W 92 134 i0 (.agg #[.string ByteArray.empty, .pointer none]) Tryz.underlying92 hi hz0 .i64 .i64 (n : Int) (n : Int) (by omega) (by omega) (by rw [hz2]; omega) (by omega), hz1]
    rfl
  obtain ⟨zs, hzs⟩ : ∃ zs, zs = (madeCells (Value.agg #[.string ByteArray.empty, .pointer none]).cells (n * 2)).toList := ⟨_, rfl⟩
  have HZL := Lib.hid (show zs.length = n * 2 by rw [hzs, Array.length_toList, size_madeCells])
  have HZS := Lib.hid hzs
  clear hl h hz hm hzs
  go_enter Tryz.func66, Tryz.ntmps66
  go_wp2_with (go_at_call 111; refine HI.out.mono ?_; rintro e w0 ⟨rfl, hE⟩; have HE0 := Lib.hid hE; clear hE)
  have E0 := Lib.hid ((ext1 w (intBox nb)).trans' HE0.out)
  obtain ⟨g, hg⟩ : ∃ g, g = w0.heap.size := ⟨_, rfl⟩
  have HG := Lib.hid hg
  have HGW := Lib.hid (show w.heap.size ≤ g by rw [hg]; exact E0.out.size)
  rw [← hg]
  clear hg
  go_loopw [16] (fun i wr => ∃ (k : Nat) (cs : List Co), k ≤ n ∧ i = .int .i64 k ∧ cs.length = k ∧ cs.map Co.val = (l.map (fun c => (c.s, c.z * m))).take k ∧ Blk wr g 134 (flat2 (cs.map Co.pair) ++ zs.drop (k * 2)) ∧ Bigs wr cs ∧ Ext w0 wr) (fun i _ => n - (intOf i).toNat)
  case atStart =>
    refine ⟨0, [], Nat.zero_le _, rfl, rfl, rfl, ?_, fun _ h => (by cases h), Ext.alloc' _ _⟩
    rw [HG.out]
    have := Blk.new w0 134 zs
    rw [HZS.out, Array.toArray_toList, ← HZS.out] at this
    rw [show flat2 (([] : List Co).map Co.pair) ++ zs.drop (0 * 2) = zs by simp [flat2]]
    exact this
  case round =>
    obtain ⟨k, cs, hk, rfl, hcl, hcv, hblk, hbigs, hE⟩ := hrel
    have HC := Lib.hid hcl; have HV := Lib.hid hcv; have HBL := Lib.hid hblk; have HBG := Lib.hid hbigs; have HE := Lib.hid hE
    clear hcl hcv hblk hbigs hE
    by_cases hlt : k < n
    · have hkl : k < l.length := by rw [HL.out]; exact hlt
      obtain ⟨s, hs⟩ : ∃ s, s = l[k].s := ⟨_, rfl⟩
      obtain ⟨b, hb⟩ : ∃ b, b = l[k].b := ⟨_, rfl⟩
      obtain ⟨z, hzz⟩ : ∃ z, z = l[k].z := ⟨_, rfl⟩
      obtain ⟨ga, o, hA, hc⟩ := HP.out.1 (by intro e; have := congrArg List.length e; simp at this; rw [this] at hkl; simp at hkl)
      subst hA
      have hck := hc k (by simpa using hkl)
      have EW := Lib.hid (E0.out.trans' HE.out)
      have cs0 : wr.cell? ⟨ga, o + k * 2, none⟩ = some (.string s) := EW.out.cell' (by rw [hck.1, hs]; simp [Co.pair])
      have cs1 : wr.cell? ⟨ga, o + k * 2 + 1, none⟩ = some (.pointer (some ⟨b, 0, none⟩)) := EW.out.cell' (by rw [hck.2, hb]; simp [Co.pair])
      have HB := Lib.hid (show BigAt (wr.alloc (coinBox s b)) b z by rw [hb, hzz]; exact ((HP.out.2 _ (List.getElem_mem hkl)).ext EW.out).ext (ext1 _ _))
      have HMW := Lib.hid (show BigAt (wr.alloc (coinBox s b)) nb m from (HM.out.ext EW.out).ext (ext1 _ _))
      have hok := HZ.out _ (List.getElem_mem hkl)
      rw [← hs, ← hb, ← hzz] at hok
      have HK := Lib.hid hok
      have HX := Lib.hid (show (l.map (fun c => (c.s, c.z * m)))[k]'(by simpa using hkl) = (s, z * m) by simp [hs, hzz])
      have k1 := Lib.hid (blk_new0 wr 134 [.string s, .pointer (some ⟨b, 0, none⟩)])
      have kn : (wr.alloc (coinBox s b)).cell? ⟨w.heap.size, 0, none⟩ = some (.pointer (some ⟨nb, 0, none⟩)) := (HE0.out.trans' (HE.out.trans' (ext1 _ _))).cell' (((blk_new0 w 98 [.pointer (some ⟨nb, 0, none⟩)]).cell 0).trans rfl)
      have hll : (flat2 (cs.map Co.pair) ++ zs.drop (k * 2)).length = n * 2 := by
        rw [List.length_append, flat2_length, List.length_map, List.length_drop, HC.out, HZL.out]; omega
      have b0 : (0 : Int) ≤ (k : Int) := by omega
      have b1 : (k : Int) < (n : Int) := by omega
      have HLL := Lib.hid hll
      clear hs hb hzz hck hc hok hll
      go_wp2
      go_region_law (first
        | (go_simp; go_at_call 113; refine (mMul b nb z m _ (by exact HB.out.ext (Ext.drewN' _ 1)) (by exact HMW.out.ext (Ext.drewN' _ 1)) HK.out.2.2.2.1 hmB HK.out.2.2.2.2.1 HK.out.2.2.2.2.2).mono ?_; rintro e w1 ⟨r, rfl, hB, hE⟩; have HB1 := Lib.hid hB; have HE1 := Lib.hid (Ext.undrew hE); have c0 : w1.cell? ⟨wr.heap.size, 0, none⟩ = some (.string s) := (((k1.out).ext HE1.out).cell 0).trans rfl; clear hB hE)
        | (go_simp; go_at_call 112; refine (tNewCoin s r (z * m) _ (by exact HB1.out) HK.out.1 (Int.mul_nonneg HK.out.2.2.1 (Int.le_of_lt hm0)) HK.out.2.1).mono ?_; rintro e w2 ⟨r2, rfl, hB, hE⟩; have HB2 := Lib.hid hB; have HE2 := Lib.hid ((ext1 _ _).trans' (HE1.out.trans' hE)); have HL2 := Lib.hid (HBL.out.ext HE2.out); have f0 := HL2.out.frozen (k * 2); have f1 := HL2.out.frozen (k * 2 + 1); obtain ⟨u0, hu0⟩ := HL2.out.old (k * 2) (by have := HLL.out; omega); obtain ⟨u1, hu1⟩ := HL2.out.old (k * 2 + 1) (by have := HLL.out; omega); clear hB hE))
      all_goals go_wp2
      all_goals
        refine ⟨⟨k + 1, cs ++ [⟨s, r2, z * m⟩], by omega, by go_num, by simp [HC.out], by rw [List.map_append, HV.out, List.take_succ_eq_append_getElem (by simpa using hkl), HX.out]; rfl, ?_, ?_, Only.ext (HE.out.trans' HE2.out) (((Only.refl g _).set_ (k * 2) _).set_ (k * 2 + 1) _) (Nat.le_of_eq HG.out.symm)⟩, by simp [intOf]; omega⟩
        · have hb := (HL2.out.set_ (k * 2) (.string s)).set_ (k * 2 + 1) (.pointer (some ⟨r2, 0, none⟩))
          rw [pair_set _ _ (by simp [HC.out]) (by have := HZL.out; omega)] at hb
          rw [List.map_append]
          exact hb
        · intro x hx
          have hx1 : BigAt w2 x.b x.z := by
            rcases List.mem_append.1 hx with hx | hx
            · exact (HBG.out x hx).ext HE2.out
            · simp at hx; subst hx; exact HB2.out
          exact (hx1.set_ HL2.out _ _).set_ (HL2.out.set_ _ _) _ _
    · obtain rfl : k = n := by omega
      go_wp2
      go_ret2
      have hbl := HBL.out
      rw [List.drop_of_length_le (by have := HZL.out; omega), List.append_nil] at hbl
      refine ⟨some ⟨g, 0, none⟩, cs, by rw [HC.out]; rfl, ⟨fun _ => ⟨g, 0, rfl, fun j hj => ?_⟩, HBG.out⟩, by rw [HV.out, List.take_of_length_le (by simp [HL.out])], E0.out.trans' HE.out⟩
      have h2 := flat2_get (cs.map Co.pair) j hj
      rw [Nat.zero_add]
      exact ⟨by rw [hbl.cell, h2.1], by rw [hbl.cell, h2.2]⟩
end Go.Proofs.YtlpdhpfjcfihoaaGreatDoor
