/-
  The contracts of Coins.AmountOf, impl.AmountOf, impl.FindIn, and of the reference's SumOf.
-/
import Derived.Test.YtagfbefgcijegaaGreatDoorFind
import Derived.Test.YtagfbefgcijegaaGreatDoorTot
import Derived.Test.YtagfbefgcijegaaGreatDoorLKit
namespace Go.Proofs.YtagfbefgcijegaaGreatDoor
open Go Go.RowKit

theorem strict_co {l : List Co} {m : List (ByteArray × Int)} (hv : l.map Co.val = m) (h : m.Pairwise fun a b => keyLt a.1 b.1 = true) : l.Pairwise fun a b => le (Co.s a) (Co.s b) := by
  rw [← hv, List.pairwise_map] at h
  exact h.imp fun h => le_of_lt h
theorem amt_none {l : List Co} {m : List (ByteArray × Int)} {d : ByteArray} (hv : l.map Co.val = m) (h : ∀ x ∈ l, x.s ≠ d) : totalP d m = 0 := by
  rw [← hv]
  refine totalP_none fun x hx => ?_
  obtain ⟨c, hc, rfl⟩ := List.mem_map.1 hx
  exact h c hc
theorem amt_some {l : List Co} {m : List (ByteArray × Int)} {d : ByteArray} {x : Co} (hv : l.map Co.val = m) (h : m.Pairwise fun a b => keyLt a.1 b.1 = true) (hx : x ∈ l) (hd : x.s = d) : totalP d m = x.z := by
  have := tot_get h (show x.val ∈ m by rw [← hv]; exact List.mem_map_of_mem hx)
  subst hd; exact this
theorem own_cap2 {w : World} {base n k : Nat} {E : TypeId} {v : Value} {xs : List Value} (h : w.ownsRow base E k v n xs) : ∃ A c, v = .slice A n c ∧ n ≤ c ∧ c ≤ 9223372036854775807 := by
  rcases h.2 with ⟨rfl, rfl⟩ | ⟨g, cap, _, rfl, _, _, hn, hm, _⟩
  · exact ⟨_, _, rfl, Nat.le_refl _, by decide⟩
  · exact ⟨_, _, rfl, hn, by unfold maxLen at hm; omega⟩

set_option maxRecDepth 100000 in
set_option maxHeartbeats 1000000 in
theorem tAmountOf (A : Option Addr) (n c : Nat) (l : List Co) (m : List (ByteArray × Int)) (d : ByteArray) (w : World) (hl : l.length = n) (hn : n ≤ 1000000) (hc : n ≤ c) (hc2 : c ≤ 9223372036854775807) (h : CoinsAt w A l) (hv : l.map Co.val = m) (hs : m.Pairwise fun a b => keyLt a.1 b.1 = true) :
    Calls Tryz.prog 80 #[.slice A n c, .string d] w (RetInt (totalP d m) w) := by
  have H1 := Lib.hid (tFind d n A c l _ hl hn hc hc2 (h.ext (ext1 w (.cells #[.pointer none] 79))) (strict_co hv hs))
  have K0 := Lib.hid (blk_new0 w 79 [.pointer none])
  have HP := Lib.hid h; have HV := Lib.hid (And.intro hv hs)
  clear h hl hn hc hc2 hv hs
  go_enter Tryz.func80, Tryz.ntmps80
  go_wp2_with (fail)
  go_at_call 78
  refine H1.out.mono ?_
  rintro e w1 ⟨hr, hE⟩
  have HE := Lib.hid hE
  rcases hr with ⟨rfl, hno⟩ | ⟨x, hx, hxs, rfl⟩
  · have HNO := Lib.hid (amt_none HV.out.1 hno); clear hno hE
    go_wp2_with (fail)
    go_at_call 130
    refine (mZeroInt _).mono ?_
    rintro e w2 ⟨b, rfl, hB, hE2⟩
    have HE2 := Lib.hid ((HE.out.trans' (Ext.alloc' _ _)).trans' hE2)
    have kk := Lib.hid (K0.out.ext HE2.out)
    have d0 : w2.cell? ⟨w.heap.size, 0, none⟩ = some (.pointer none) := (kk.out.cell 0).trans rfl
    have f0 := kk.out.frozen 0
    have HB := Lib.hid hB
    clear hB hE2
    go_wp2
    exact bodyPost_ret (v := .agg #[.pointer (some ⟨b, 0, none⟩)]) (by simp [results, Tryz.results80, go_sem, d0]) rfl ⟨b, rfl, by rw [HNO.out]; exact HB.out.set_ kk.out 0 _, Only.ext ((ext1 _ _).trans' HE2.out) ((Only.refl _ _).set_ 0 _) (Nat.le_refl _)⟩
  · have HX := Lib.hid (And.intro hx hxs)
    have kk := Lib.hid (K0.out.ext hE)
    have d0 : w1.cell? ⟨w.heap.size, 0, none⟩ = some (.pointer none) := (kk.out.cell 0).trans rfl
    have f0 := kk.out.frozen 0
    have d1 : ((w1.setCell ⟨w.heap.size, 0, none⟩ (.pointer (some ⟨x.b, 0, none⟩))).alloc (.cells #[.string d, .pointer (some ⟨x.b, 0, none⟩)] 81)).cell? ⟨w.heap.size, 0, none⟩ = some (.pointer (some ⟨x.b, 0, none⟩)) := (((kk.out.set_ 0 _).alloc _).cell 0).trans rfl
    have hlt := cell_lt d0
    clear hx hxs hE
    go_wp2
    exact bodyPost_ret (v := .agg #[.pointer (some ⟨x.b, 0, none⟩)]) (by simp [results, Tryz.results80, go_sem, d1]) rfl ⟨x.b, rfl, by rw [amt_some HV.out.1 HV.out.2 HX.out.1 HX.out.2]; exact (((HP.out.2 x HX.out.1).ext ((ext1 _ _).trans' HE.out)).set_ kk.out 0 _).ext (Ext.alloc' _ _), (Only.ext ((ext1 _ _).trans' HE.out) ((Only.refl _ _).set_ 0 _) (Nat.le_refl _)).trans' (Ext.alloc' _ _)⟩

set_option maxRecDepth 100000 in
theorem iAmountOf (A : Option Addr) (n c : Nat) (l : List (ByteArray × Int)) (d : ByteArray) (w : World) (hl : l.length = n) (hn : n ≤ 1000) (h : PlainAt w A l) (hz : ∀ x ∈ l, -maxI ≤ x.2 ∧ x.2 ≤ maxI) (hs : l.Pairwise fun a b => keyLt a.1 b.1 = true) (hb0 : -maxI ≤ totalP d l) (hb1 : totalP d l ≤ maxI) :
    Calls Tryz.prog 35 #[.slice A n c, .string d] w (RetE (.int .i64 (totalP d l)) w) := by
  have H1 := Lib.hid (iCoins A n c l w hl (by omega) h hz)
  have HL := Lib.hid hl; have HS := Lib.hid hs; have HB := Lib.hid (And.intro hb0 hb1)
  clear hl h hz hs hb0 hb1
  go_enter Tryz.func35, Tryz.ntmps35
  go_wp2_with (fail)
  go_at_call 72
  refine H1.out.mono ?_
  rintro e w1 ⟨v, cs, rfl, hcv, hown, hE⟩
  obtain ⟨A1, c1, rfl, hc1, hc2⟩ := own_cap2 hown.1
  have HO := Lib.hid (own_at hown).1; have HV := Lib.hid hcv; have HE := Lib.hid hE; have HN := Lib.hid (show cs.length = n by rw [← HL.out, ← hcv]; simp); have HC := Lib.hid (And.intro hc1 hc2)
  clear hown hcv hE hc1 hc2
  go_wp2_with (fail)
  go_at_call 80
  refine (tAmountOf A1 cs.length c1 cs l d _ rfl (by have := HN.out; omega) HC.out.1 HC.out.2 HO.out HV.out HS.out).mono ?_
  rintro e w2 ⟨b, rfl, hB, hE2⟩
  have HBB := Lib.hid hB; have HE2 := Lib.hid hE2
  clear hB hE2
  go_wp2_with (fail)
  go_at_call 81
  refine (mInt64 b _ _ HBB.out HB.out.1 HB.out.2).mono ?_
  rintro e w3 ⟨rfl, hE3⟩
  have HE3 := Lib.hid hE3
  clear hE3
  go_wp2
  go_ret
  exact ⟨rfl, (HE.out.trans' HE2.out).trans' HE3.out⟩

/-- The coin of a name in plain data, or none. -/
def RetFindIn (l : List (ByteArray × Int)) (d : ByteArray) (w : World) (e : Ending) (w' : World) : Prop :=
  ((e = .returned (.tuple #[.agg #[.string ⟨#[]⟩, .int .i64 0], .bool false]) ∧ ∀ x ∈ l, x.1 ≠ d) ∨ ∃ x ∈ l, x.1 = d ∧ e = .returned (.tuple #[.agg #[.string d, .int .i64 x.2], .bool true])) ∧ Ext w w'

set_option maxRecDepth 100000 in
set_option maxHeartbeats 1000000 in
theorem iFindIn (A : Option Addr) (n c : Nat) (l : List (ByteArray × Int)) (d : ByteArray) (w : World) (hl : l.length = n) (hn : n ≤ 1000) (h : PlainAt w A l) (hz : ∀ x ∈ l, -maxI ≤ x.2 ∧ x.2 ≤ maxI) (hs : l.Pairwise fun a b => keyLt a.1 b.1 = true) :
    Calls Tryz.prog 34 #[.slice A n c, .string d] w (RetFindIn l d w) := by
  have H1 := Lib.hid (iCoins A n c l _ hl (by omega) (h.ext (ext1 w (planBox ⟨#[]⟩ 0))) hz)
  have K0 := Lib.hid (blk_new0 w 37 [.string ⟨#[]⟩, .int .i64 0])
  have HL := Lib.hid hl; have HS := Lib.hid hs; have HZ := Lib.hid hz
  clear hl h hz hs
  go_enter Tryz.func34, Tryz.ntmps34
  go_wp2_with (fail)
  go_at_call 72
  refine H1.out.mono ?_
  rintro e w1 ⟨v, cs, rfl, hcv, hown, hE⟩
  obtain ⟨A1, c1, rfl, hc1, hc2⟩ := own_cap2 hown.1
  have HO := Lib.hid (own_at hown).1; have HV := Lib.hid hcv; have HE := Lib.hid hE; have HN := Lib.hid (show cs.length = n by rw [← HL.out, ← hcv]; simp); have HC := Lib.hid (And.intro hc1 hc2)
  clear hown hcv hE hc1 hc2
  go_wp2_with (fail)
  go_at_call 78
  refine (tFind d cs.length A1 c1 cs _ rfl (by have := HN.out; omega) HC.out.1 HC.out.2 HO.out (strict_co HV.out HS.out)).mono ?_
  rintro e w2 ⟨hr, hE2⟩
  have HE2 := Lib.hid (HE.out.trans' hE2)
  have kk := Lib.hid (K0.out.ext HE2.out)
  have HO2 := Lib.hid (HO.out.ext hE2)
  clear hE2
  rcases hr with ⟨rfl, hno⟩ | ⟨x, hx, hxs, rfl⟩
  · have HNO := Lib.hid hno; clear hno
    have d0 : w2.cell? ⟨w.heap.size, 0, none⟩ = some (.string ⟨#[]⟩) := (kk.out.cell 0).trans rfl
    have d1 : w2.cell? ⟨w.heap.size, 1, none⟩ = some (.int .i64 0) := (kk.out.cell 1).trans rfl
    have d0' : (((w2.setCell ⟨w.heap.size, 0, none⟩ (.string ⟨#[]⟩)).setCell ⟨w.heap.size, 1, none⟩ (.int .i64 0)).alloc (.cells #[.string ByteArray.empty, .pointer none] 81)).cell? ⟨w.heap.size, 0, none⟩ = some (.string ⟨#[]⟩) := ((((kk.out.set_ 0 _).set_ 1 _).alloc _).cell 0).trans rfl
    have d1' : (((w2.setCell ⟨w.heap.size, 0, none⟩ (.string ⟨#[]⟩)).setCell ⟨w.heap.size, 1, none⟩ (.int .i64 0)).alloc (.cells #[.string ByteArray.empty, .pointer none] 81)).cell? ⟨w.heap.size, 1, none⟩ = some (.int .i64 0) := ((((kk.out.set_ 0 _).set_ 1 _).alloc _).cell 1).trans rfl
    have f0 := kk.out.frozen 0
    have f1 := kk.out.frozen 1
    have hlt := cell_lt d0
    go_wp2
    exact bodyPost_ret (v := .tuple #[.agg #[.string ⟨#[]⟩, .int .i64 0], .bool false]) (by simp [results, Tryz.results34, go_sem, d0', d1']) rfl ⟨Or.inl ⟨rfl, fun x hx => by
      rw [← HV.out] at hx
      obtain ⟨y, hy, rfl⟩ := List.mem_map.1 hx
      exact HNO.out y hy⟩, (Only.ext ((ext1 _ _).trans' HE2.out) (((Only.refl _ _).set_ 0 _).set_ 1 _) (Nat.le_refl _)).trans' (Ext.alloc' _ _)⟩
  · have HX := Lib.hid (And.intro hx hxs)
    have hzx := HZ.out x.val (by rw [← HV.out]; exact List.mem_map_of_mem hx)
    have HZX := Lib.hid (show -maxI ≤ x.z ∧ x.z ≤ maxI from hzx)
    clear hx hxs hzx
    go_wp2_with (fail)
    go_at_call 79
    refine (iBackCoin d x.b x.z _ ((HO2.out.2 x HX.out.1).ext (Ext.alloc' _ _)) HZX.out.1 HZX.out.2).mono ?_
    rintro e w3 ⟨rfl, hE3⟩
    have HE3 := Lib.hid ((HE2.out.trans' (Ext.alloc' _ _)).trans' hE3)
    have k3 := Lib.hid (K0.out.ext HE3.out)
    have d0 : w3.cell? ⟨w.heap.size, 0, none⟩ = some (.string ⟨#[]⟩) := (k3.out.cell 0).trans rfl
    have d1 : w3.cell? ⟨w.heap.size, 1, none⟩ = some (.int .i64 0) := (k3.out.cell 1).trans rfl
    have f0 := k3.out.frozen 0
    have f1 := k3.out.frozen 1
    clear hE3
    go_wp2
    exact bodyPost_ret (v := .tuple #[.agg #[.string d, .int .i64 x.z], .bool true]) (by simp [results, Tryz.results34, go_sem, d0, d1] <;> rfl) rfl ⟨Or.inr ⟨x.val, by rw [← HV.out]; exact List.mem_map_of_mem HX.out.1, HX.out.2, rfl⟩, Only.ext ((ext1 _ _).trans' HE3.out) (((Only.refl _ _).set_ 0 _).set_ 1 _) (Nat.le_refl _)⟩

set_option maxRecDepth 100000 in
set_option maxHeartbeats 1000000 in
theorem sSumOf (A : Option Addr) (n c : Nat) (l : List (ByteArray × Int)) (d : ByteArray) (w : World) (hl : l.length = n) (hn : n ≤ 1000000) (h : PlainAt w A l) (hs : l.Pairwise fun a b => keyLt a.1 b.1 = true) :
    Calls Tryz.prog 33 #[.slice A n c, .string d] w (RetE (.int .i64 (totalP d l)) w) := by
  have HL := Lib.hid hl; have HP := Lib.hid h; have HS := Lib.hid hs
  clear hl h hs
  go_enter Tryz.func33, Tryz.ntmps33
  go_wp2
  go_loopw [9] (fun i wr => ∃ k : Nat, k ≤ n ∧ i = .int .i64 k ∧ (∀ x ∈ l.take k, x.1 ≠ d) ∧ Ext w wr) (fun i _ => n - (intOf i).toNat)
  case atStart => exact ⟨0, Nat.zero_le _, rfl, (fun x hx => by simp at hx), Ext.refl _⟩
  case round =>
    obtain ⟨k, hk, rfl, hq, hE⟩ := hrel
    have HQ := Lib.hid hq; have HE := Lib.hid hE
    clear hq hE
    by_cases hlt : k < n
    · have hkl : k < l.length := by rw [HL.out]; exact hlt
      obtain ⟨s, hss⟩ : ∃ s, s = l[k].1 := ⟨_, rfl⟩
      obtain ⟨z, hzz⟩ : ∃ z, z = l[k].2 := ⟨_, rfl⟩
      obtain ⟨g, o, hA, hc⟩ := HP.out (by intro e; have := congrArg List.length e; simp at this; rw [this] at hkl; simp at hkl)
      subst hA
      have hck := hc k (by simpa using hkl)
      have cs0 : wr.cell? ⟨g, o + k * 2, none⟩ = some (.string s) := HE.out.cell' (by rw [hck.1, hss]; simp [plain])
      have cs1 : wr.cell? ⟨g, o + k * 2 + 1, none⟩ = some (.int .i64 z) := HE.out.cell' (by rw [hck.2, hzz]; simp [plain])
      have HX := Lib.hid (show l[k] = (s, z) by rw [hss, hzz])
      clear hss hzz hck hc
      by_cases hsd : s = d
      · subst hsd
        have F := Lib.hid (show totalP s l = z by have := tot_get HS.out (List.getElem_mem hkl); rw [HX.out] at this; exact this)
        go_wp2
        go_ret
        rw [F.out]; exact ⟨rfl, HE.out.trans' (Ext.alloc' _ _)⟩
      · have hne : (s.toList == d.toList) = false := by rw [key_beq]; simpa using hsd
        have HNE := Lib.hid hsd; clear hsd
        go_wp2
        go_roundw
        case rel =>
          refine ⟨k + 1, by omega, by go_num, fun x hx => ?_, HE.out.trans' (Ext.alloc' _ _)⟩
          rw [List.take_succ_eq_append_getElem hkl, List.mem_append, List.mem_singleton] at hx
          rcases hx with hx | rfl
          · exact HQ.out x hx
          · rw [HX.out]; exact HNE.out
        case measure => simp [intOf]; omega
    · obtain rfl : k = n := by omega
      have F := Lib.hid (show totalP d l = 0 from totalP_none fun x hx => HQ.out x (by rw [List.take_of_length_le (by rw [HL.out]; exact Nat.le_refl _)]; exact hx))
      go_wp2
      go_ret
      rw [F.out]; exact ⟨rfl, HE.out⟩
end Go.Proofs.YtagfbefgcijegaaGreatDoor
