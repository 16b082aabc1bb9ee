/-
  The contracts of Coins.AmountOf, impl.AmountOf, impl.FindIn, and of the reference's SumOf.
  The contracts of removeZeroCoins, sanitizeCoins, MakeCoins, NewCoins, impl.NewOf.
  The reference's sets: its IsSum, IsSumSet; sums of sets.
  The contract of impl.NewOf; what makes a list a set.
  The contracts of the reference's SumErr and of impl.CoinsErr.
  The contracts of impl.About and of the reference's SumNegative.
-/
import Derived.Test.YtagfbefgcijegaaGreatDoorGF
import Derived.Test.YtagfbefgcijegaaGreatDoorGE
import Derived.BigQuiet
namespace Go.Proofs.YtagfbefgcijegaaGreatDoor
open Go Go.RowKit

theorem strict_co {l : List Co} {m : List (ByteArray × Int)} (hv : l.map Co.val = m) (h : m.Pairwise fun a b => keyLt a.1 b.1 = true) : l.Pairwise fun a b => le (Co.s a) (Co.s b) := by
  rw [← hv, List.pairwise_map] at h
  exact h.imp fun h => le_of_lt h
theorem amt_none {l : List Co} {m : List (ByteArray × Int)} {d : ByteArray} (hv : l.map Co.val = m) (h : ∀ x ∈ l, x.s ≠ d) : totalP d m = 0 := by
  rw [← hv]
  refine totalP_none fun x hx => ?_
  obtain ⟨c, hc, rfl⟩ := List.mem_map.1 hx
  exact h c hc
theorem amt_some {l : List Co} {m : List (ByteArray × Int)} {d : ByteArray} {x : Co} (hv : l.map Co.val = m) (h : m.Pairwise fun a b => keyLt a.1 b.1 = true) (hx : x ∈ l) (hd : x.s = d) : totalP d m = x.z := by
  have := tot_get h (show x.val ∈ m by rw [← hv]; exact List.mem_map_of_mem hx)
  subst hd; exact this
theorem own_cap2 {w : World} {base n k : Nat} {E : TypeId} {v : Value} {xs : List Value} (h : w.ownsRow base E k v n xs) : ∃ A c, v = .slice A n c ∧ n ≤ c ∧ c ≤ 9223372036854775807 := by
  rcases h.2 with ⟨rfl, rfl⟩ | ⟨g, cap, _, rfl, _, _, hn, hm, _⟩
  · exact ⟨_, _, rfl, Nat.le_refl _, by decide⟩
  · exact ⟨_, _, rfl, hn, by unfold maxLen at hm; omega⟩

set_option maxRecDepth 100000 in
set_option maxHeartbeats 1000000 in
theorem tAmountOf (A : Option Addr) (n c : Nat) (l : List Co) (m : List (ByteArray × Int)) (d : ByteArray) (w : World) (hl : l.length = n) (hn : n ≤ 1000000) (hc : n ≤ c) (hc2 : c ≤ 9223372036854775807) (h : CoinsAt w A l) (hv : l.map Co.val = m) (hs : m.Pairwise fun a b => keyLt a.1 b.1 = true) :
    Calls Tryz.prog 80 #[.slice A n c, .string d] w (RetInt (totalP d m) w) := by
  have H1 := Lib.hid (tFind d n A c l _ hl hn hc hc2 (h.ext (ext1 w (.cells #[.pointer none] 79))) (strict_co hv hs))
  have K0 := Lib.hid (blk_new0 w 79 [.pointer none])
  have HP := Lib.hid h; have HV := Lib.hid (And.intro hv hs)
  clear h hl hn hc hc2 hv hs
  go_enter Tryz.func80, Tryz.ntmps80
  go_wp2_with (fail)
  go_at_call 78
  refine H1.out.mono ?_
  rintro e w1 ⟨hr, hE⟩
  have HE := Lib.hid hE
  rcases hr with ⟨rfl, hno⟩ | ⟨x, hx, hxs, rfl⟩
  · have HNO := Lib.hid (amt_none HV.out.1 hno); clear hno hE
    go_wp2_with (fail)
    go_at_call 130
    refine (mZeroInt _).mono ?_
    rintro e w2 ⟨b, rfl, hB, hE2⟩
    have HE2 := Lib.hid ((HE.out.trans' (Ext.alloc' _ _)).trans' hE2)
    have kk := Lib.hid (K0.out.ext HE2.out)
    have d0 : w2.cell? ⟨w.heap.size, 0, none⟩ = some (.pointer none) := (kk.out.cell 0).trans rfl
    have f0 := kk.out.frozen 0
    have HB := Lib.hid hB
    clear hB hE2
    go_wp2
    exact bodyPost_ret (v := .agg #[.pointer (some ⟨b, 0, none⟩)]) (by simp [results, Tryz.results80, go_sem, d0]) rfl ⟨b, rfl, by rw [HNO.out]; exact HB.out.set_ kk.out 0 _, Only.ext ((ext1 _ _).trans' HE2.out) ((Only.refl _ _).set_ 0 _) (Nat.le_refl _)⟩
  · have HX := Lib.hid (And.intro hx hxs)
    have kk := Lib.hid (K0.out.ext hE)
    have d0 : w1.cell? ⟨w.heap.size, 0, none⟩ = some (.pointer none) := (kk.out.cell 0).trans rfl
    have f0 := kk.out.frozen 0
    have d1 : ((w1.setCell ⟨w.heap.size, 0, none⟩ (.pointer (some ⟨x.b, 0, none⟩))).alloc (.cells #[.string d, .pointer (some ⟨x.b, 0, none⟩)] 81)).cell? ⟨w.heap.size, 0, none⟩ = some (.pointer (some ⟨x.b, 0, none⟩)) := (((kk.out.set_ 0 _).alloc _).cell 0).trans rfl
    have hlt := cell_lt d0
    clear hx hxs hE
    go_wp2
    exact bodyPost_ret (v := .agg #[.pointer (some ⟨x.b, 0, none⟩)]) (by simp [results, Tryz.results80, go_sem, d1]) rfl ⟨x.b, rfl, by rw [amt_some HV.out.1 HV.out.2 HX.out.1 HX.out.2]; exact (((HP.out.2 x HX.out.1).ext ((ext1 _ _).trans' HE.out)).set_ kk.out 0 _).ext (Ext.alloc' _ _), (Only.ext ((ext1 _ _).trans' HE.out) ((Only.refl _ _).set_ 0 _) (Nat.le_refl _)).trans' (Ext.alloc' _ _)⟩

set_option maxRecDepth 100000 in
theorem iAmountOf (A : Option Addr) (n c : Nat) (l : List (ByteArray × Int)) (d : ByteArray) (w : World) (hl : l.length = n) (hn : n ≤ 1000) (h : PlainAt w A l) (hz : ∀ x ∈ l, -maxI ≤ x.2 ∧ x.2 ≤ maxI) (hs : l.Pairwise fun a b => keyLt a.1 b.1 = true) (hb0 : -maxI ≤ totalP d l) (hb1 : totalP d l ≤ maxI) :
    Calls Tryz.prog 35 #[.slice A n c, .string d] w (RetE (.int .i64 (totalP d l)) w) := by
  have H1 := Lib.hid (iCoins A n c l w hl (by omega) h hz)
  have HL := Lib.hid hl; have HS := Lib.hid hs; have HB := Lib.hid (And.intro hb0 hb1)
  clear hl h hz hs hb0 hb1
  go_enter Tryz.func35, Tryz.ntmps35
  go_wp2_with (fail)
  go_at_call 72
  refine H1.out.mono ?_
  rintro e w1 ⟨v, cs, rfl, hcv, hown, hE⟩
  obtain ⟨A1, c1, rfl, hc1, hc2⟩ := own_cap2 hown.1
  have HO := Lib.hid (own_at hown).1; have HV := Lib.hid hcv; have HE := Lib.hid hE; have HN := Lib.hid (show cs.length = n by rw [← HL.out, ← hcv]; simp); have HC := Lib.hid (And.intro hc1 hc2)
  clear hown hcv hE hc1 hc2
  go_wp2_with (fail)
  go_at_call 80
  refine (tAmountOf A1 cs.length c1 cs l d _ rfl (by have := HN.out; omega) HC.out.1 HC.out.2 HO.out HV.out HS.out).mono ?_
  rintro e w2 ⟨b, rfl, hB, hE2⟩
  have HBB := Lib.hid hB; have HE2 := Lib.hid hE2
  clear hB hE2
  go_wp2_with (fail)
  go_at_call 81
  refine (mInt64 b _ _ HBB.out HB.out.1 HB.out.2).mono ?_
  rintro e w3 ⟨rfl, hE3⟩
  have HE3 := Lib.hid hE3
  clear hE3
  go_wp2
  go_ret
  exact ⟨rfl, (HE.out.trans' HE2.out).trans' HE3.out⟩

/-- The coin of a name in plain data, or none. -/
def RetFindIn (l : List (ByteArray × Int)) (d : ByteArray) (w : World) (e : Ending) (w' : World) : Prop :=
  ((e = .returned (.tuple #[.agg #[.string ⟨#[]⟩, .int .i64 0], .bool false]) ∧ ∀ x ∈ l, x.1 ≠ d) ∨ ∃ x ∈ l, x.1 = d ∧ e = .returned (.tuple #[.agg #[.string d, .int .i64 x.2], .bool true])) ∧ Ext w w'

set_option maxRecDepth 100000 in
set_option maxHeartbeats 1000000 in
theorem iFindIn (A : Option Addr) (n c : Nat) (l : List (ByteArray × Int)) (d : ByteArray) (w : World) (hl : l.length = n) (hn : n ≤ 1000) (h : PlainAt w A l) (hz : ∀ x ∈ l, -maxI ≤ x.2 ∧ x.2 ≤ maxI) (hs : l.Pairwise fun a b => keyLt a.1 b.1 = true) :
    Calls Tryz.prog 34 #[.slice A n c, .string d] w (RetFindIn l d w) := by
  have H1 := Lib.hid (iCoins A n c l _ hl (by omega) (h.ext (ext1 w (planBox ⟨#[]⟩ 0))) hz)
  have K0 := Lib.hid (blk_new0 w 37 [.string ⟨#[]⟩, .int .i64 0])
  have HL := Lib.hid hl; have HS := Lib.hid hs; have HZ := Lib.hid hz
  clear hl h hz hs
  go_enter Tryz.func34, Tryz.ntmps34
  go_wp2_with (fail)
  go_at_call 72
  refine H1.out.mono ?_
  rintro e w1 ⟨v, cs, rfl, hcv, hown, hE⟩
  obtain ⟨A1, c1, rfl, hc1, hc2⟩ := own_cap2 hown.1
  have HO := Lib.hid (own_at hown).1; have HV := Lib.hid hcv; have HE := Lib.hid hE; have HN := Lib.hid (show cs.length = n by rw [← HL.out, ← hcv]; simp); have HC := Lib.hid (And.intro hc1 hc2)
  clear hown hcv hE hc1 hc2
  go_wp2_with (fail)
  go_at_call 78
  refine (tFind d cs.length A1 c1 cs _ rfl (by have := HN.out; omega) HC.out.1 HC.out.2 HO.out (strict_co HV.out HS.out)).mono ?_
  rintro e w2 ⟨hr, hE2⟩
  have HE2 := Lib.hid (HE.out.trans' hE2)
  have kk := Lib.hid (K0.out.ext HE2.out)
  have HO2 := Lib.hid (HO.out.ext hE2)
  clear hE2
  rcases hr with ⟨rfl, hno⟩ | ⟨x, hx, hxs, rfl⟩
  · have HNO := Lib.hid hno; clear hno
    have d0 : w2.cell? ⟨w.heap.size, 0, none⟩ = some (.string ⟨#[]⟩) := (kk.out.cell 0).trans rfl
    have d1 : w2.cell? ⟨w.heap.size, 1, none⟩ = some (.int .i64 0) := (kk.out.cell 1).trans rfl
    have d0' : (((w2.setCell ⟨w.heap.size, 0, none⟩ (.string ⟨#[]⟩)).setCell ⟨w.heap.size, 1, none⟩ (.int .i64 0)).alloc (.cells #[.string ByteArray.empty, .pointer none] 81)).cell? ⟨w.heap.size, 0, none⟩ = some (.string ⟨#[]⟩) := ((((kk.out.set_ 0 _).set_ 1 _).alloc _).cell 0).trans rfl
    have d1' : (((w2.setCell ⟨w.heap.size, 0, none⟩ (.string ⟨#[]⟩)).setCell ⟨w.heap.size, 1, none⟩ (.int .i64 0)).alloc (.cells #[.string ByteArray.empty, .pointer none] 81)).cell? ⟨w.heap.size, 1, none⟩ = some (.int .i64 0) := ((((kk.out.set_ 0 _).set_ 1 _).alloc _).cell 1).trans rfl
    have f0 := kk.out.frozen 0
    have f1 := kk.out.frozen 1
    have hlt := cell_lt d0
    go_wp2
    exact bodyPost_ret (v := .tuple #[.agg #[.string ⟨#[]⟩, .int .i64 0], .bool false]) (by simp [results, Tryz.results34, go_sem, d0', d1']) rfl ⟨Or.inl ⟨rfl, fun x hx => by
      rw [← HV.out] at hx
      obtain ⟨y, hy, rfl⟩ := List.mem_map.1 hx
      exact HNO.out y hy⟩, (Only.ext ((ext1 _ _).trans' HE2.out) (((Only.refl _ _).set_ 0 _).set_ 1 _) (Nat.le_refl _)).trans' (Ext.alloc' _ _)⟩
  · have HX := Lib.hid (And.intro hx hxs)
    have hzx := HZ.out x.val (by rw [← HV.out]; exact List.mem_map_of_mem hx)
    have HZX := Lib.hid (show -maxI ≤ x.z ∧ x.z ≤ maxI from hzx)
    clear hx hxs hzx
    go_wp2_with (fail)
    go_at_call 79
    refine (iBackCoin d x.b x.z _ ((HO2.out.2 x HX.out.1).ext (Ext.alloc' _ _)) HZX.out.1 HZX.out.2).mono ?_
    rintro e w3 ⟨rfl, hE3⟩
    have HE3 := Lib.hid ((HE2.out.trans' (Ext.alloc' _ _)).trans' hE3)
    have k3 := Lib.hid (K0.out.ext HE3.out)
    have d0 : w3.cell? ⟨w.heap.size, 0, none⟩ = some (.string ⟨#[]⟩) := (k3.out.cell 0).trans rfl
    have d1 : w3.cell? ⟨w.heap.size, 1, none⟩ = some (.int .i64 0) := (k3.out.cell 1).trans rfl
    have f0 := k3.out.frozen 0
    have f1 := k3.out.frozen 1
    clear hE3
    go_wp2
    exact bodyPost_ret (v := .tuple #[.agg #[.string d, .int .i64 x.z], .bool true]) (by simp [results, Tryz.results34, go_sem, d0, d1] <;> rfl) rfl ⟨Or.inr ⟨x.val, by rw [← HV.out]; exact List.mem_map_of_mem HX.out.1, HX.out.2, rfl⟩, Only.ext ((ext1 _ _).trans' HE3.out) (((Only.refl _ _).set_ 0 _).set_ 1 _) (Nat.le_refl _)⟩

set_option maxRecDepth 100000 in
set_option maxHeartbeats 1000000 in
theorem sSumOf (A : Option Addr) (n c : Nat) (l : List (ByteArray × Int)) (d : ByteArray) (w : World) (hl : l.length = n) (hn : n ≤ 1000000) (h : PlainAt w A l) (hs : l.Pairwise fun a b => keyLt a.1 b.1 = true) :
    Calls Tryz.prog 33 #[.slice A n c, .string d] w (RetE (.int .i64 (totalP d l)) w) := by
  have HL := Lib.hid hl; have HP := Lib.hid h; have HS := Lib.hid hs
  clear hl h hs
  go_enter Tryz.func33, Tryz.ntmps33
  go_wp2
  go_loopw [9] (fun i wr => ∃ k : Nat, k ≤ n ∧ i = .int .i64 k ∧ (∀ x ∈ l.take k, x.1 ≠ d) ∧ Ext w wr) (fun i _ => n - (intOf i).toNat)
  case atStart => exact ⟨0, Nat.zero_le _, rfl, (fun x hx => by simp at hx), Ext.refl _⟩
  case round =>
    obtain ⟨k, hk, rfl, hq, hE⟩ := hrel
    have HQ := Lib.hid hq; have HE := Lib.hid hE
    clear hq hE
    by_cases hlt : k < n
    · have hkl : k < l.length := by rw [HL.out]; exact hlt
      obtain ⟨s, hss⟩ : ∃ s, s = l[k].1 := ⟨_, rfl⟩
      obtain ⟨z, hzz⟩ : ∃ z, z = l[k].2 := ⟨_, rfl⟩
      obtain ⟨g, o, hA, hc⟩ := HP.out (by intro e; have := congrArg List.length e; simp at this; rw [this] at hkl; simp at hkl)
      subst hA
      have hck := hc k (by simpa using hkl)
      have cs0 : wr.cell? ⟨g, o + k * 2, none⟩ = some (.string s) := HE.out.cell' (by rw [hck.1, hss]; simp [plain])
      have cs1 : wr.cell? ⟨g, o + k * 2 + 1, none⟩ = some (.int .i64 z) := HE.out.cell' (by rw [hck.2, hzz]; simp [plain])
      have HX := Lib.hid (show l[k] = (s, z) by rw [hss, hzz])
      clear hss hzz hck hc
      by_cases hsd : s = d
      · subst hsd
        have F := Lib.hid (show totalP s l = z by have := tot_get HS.out (List.getElem_mem hkl); rw [HX.out] at this; exact this)
        go_wp2
        go_ret
        rw [F.out]; exact ⟨rfl, HE.out.trans' (Ext.alloc' _ _)⟩
      · have hne : (s.toList == d.toList) = false := by rw [key_beq]; simpa using hsd
        have HNE := Lib.hid hsd; clear hsd
        go_wp2
        go_roundw
        case rel =>
          refine ⟨k + 1, by omega, by go_num, fun x hx => ?_, HE.out.trans' (Ext.alloc' _ _)⟩
          rw [List.take_succ_eq_append_getElem hkl, List.mem_append, List.mem_singleton] at hx
          rcases hx with hx | rfl
          · exact HQ.out x hx
          · rw [HX.out]; exact HNE.out
        case measure => simp [intOf]; omega
    · obtain rfl : k = n := by omega
      have F := Lib.hid (show totalP d l = 0 from totalP_none fun x hx => HQ.out x (by rw [List.take_of_length_le (by rw [HL.out]; exact Nat.le_refl _)]; exact hx))
      go_wp2
      go_ret
      rw [F.out]; exact ⟨rfl, HE.out⟩
end Go.Proofs.YtagfbefgcijegaaGreatDoor

namespace Go.Proofs.YtagfbefgcijegaaGreatDoor
open Go Go.RowKit

/-- Coins without those of nothing. -/
def nz (l : List Co) : List Co := l.filter fun x => decide (x.z ≠ 0)
/-- Coins in a row of the call's own handed back. -/
def RetOwn (L : List Co) (w : World) (e : Ending) (w' : World) : Prop := ∃ v, e = .returned v ∧ CoinsOwn w' w.heap.size v L ∧ Ext w w'
theorem sgn_zero (z : Int) : (sgn z == 0) = decide (z = 0) := by
  unfold sgn
  by_cases h1 : z < 0
  · rw [if_pos h1]; have : z ≠ 0 := by omega
    simp [this]
  · rw [if_neg h1]
    by_cases h2 : 0 < z
    · rw [if_pos h2]; have : z ≠ 0 := by omega
      simp [this]
    · rw [if_neg h2]; have : z = 0 := by omega
      simp [this]

set_option maxRecDepth 100000 in
set_option maxHeartbeats 1000000 in
theorem tRemoveZero (A : Option Addr) (n c : Nat) (l : List Co) (w : World) (hl : l.length = n) (hn : n ≤ 100000) (h : CoinsAt w A l) :
    Calls Tryz.prog 162 #[.slice A n c] w (RetOwn (nz l) w) := by
  obtain ⟨i0, hi, hz0, hz1, hz2⟩ := info_parts infoCoin
  have HL := Lib.hid hl; have HP := Lib.hid h
  clear hl h
  go_enter Tryz.func162, Tryz.ntmps162
  go_wp2_with (first | (at_make; refine wpList_make_own _ rfl _ _ 70 rfl w.heap.size 81 i0 _ 2 Tryz.underlying70 hi hz0 hz1 .i64 .i64 (n : Int) n rfl rfl rfl (by rw [hz2]; omega) (by unfold maxLen; omega) (Nat.le_refl _) ?_; intro w0 hown0 hg0; have HO0 := Lib.hid (show CoinsOwn w0 w.heap.size _ [] from ⟨hown0, fun _ h => by cases h⟩); have HE0 := Lib.hid (ext_none hg0); clear hown0 hg0))
  go_loopw [3, 11] (fun v i wr => ∃ (k : Nat) (cs : List Co), k ≤ n ∧ i = .int .i64 k ∧ cs.length ≤ k ∧ cs = nz (l.take k) ∧ CoinsOwn wr w.heap.size v cs ∧ Ext w wr) (fun _ i _ => n - (intOf i).toNat)
  case atStart => exact ⟨0, [], Nat.zero_le _, rfl, Nat.le_refl _, rfl, HO0.out, HE0.out⟩
  case round =>
    obtain ⟨k, cs, hk, rfl, hcl, hcv, hown, hE⟩ := hrel
    have HC := Lib.hid hcl; have HV := Lib.hid hcv; have HO := Lib.hid hown; have HE := Lib.hid hE
    clear hcl hcv hown hE HO0
    by_cases hlt : k < n
    · have hkl : k < l.length := by rw [HL.out]; exact hlt
      obtain ⟨s, hs⟩ : ∃ s, s = l[k].s := ⟨_, rfl⟩
      obtain ⟨b, hb⟩ : ∃ b, b = l[k].b := ⟨_, rfl⟩
      obtain ⟨z, hzz⟩ : ∃ z, z = l[k].z := ⟨_, rfl⟩
      obtain ⟨g, o, hA, hc⟩ := HP.out.1 (by intro e; have := congrArg List.length e; simp at this; rw [this] at hkl; simp at hkl)
      subst hA
      have hck := hc k (by simpa using hkl)
      have cs0 : wr.cell? ⟨g, o + k * 2, none⟩ = some (.string s) := HE.out.cell' (by rw [hck.1, hs]; simp [Co.pair])
      have cs1 : wr.cell? ⟨g, o + k * 2 + 1, none⟩ = some (.pointer (some ⟨b, 0, none⟩)) := HE.out.cell' (by rw [hck.2, hb]; simp [Co.pair])
      have HB := Lib.hid (show BigAt wr b z by rw [hb, hzz]; exact (HP.out.2 _ (List.getElem_mem hkl)).ext HE.out)
      have HX := Lib.hid (show l[k] = ⟨s, b, z⟩ by rw [hs, hb, hzz])
      clear hs hb hzz hck hc
      have HT := Lib.hid (tIsZero s b z _ (HB.out.ext (Ext.alloc' wr (coinBox s b))))
      rw [sgn_zero] at HT
      by_cases h0 : z = 0
      · rw [decide_eq_true h0] at HT
        have H0 := Lib.hid h0; clear h0
        go_wp2_with (first | (go_at_call 142; (with_reducible refine HT.out.mono ?_); rintro e w1 ⟨rfl, hE⟩; have HE1 := Lib.hid ((Ext.alloc' _ _).trans' hE); clear hE))
        go_roundw
        case rel =>
          refine ⟨k + 1, cs, by omega, by go_num, by have := HC.out; omega, ?_, HO.out.ext HE1.out, HE.out.trans' HE1.out⟩
          unfold nz at HV ⊢
          rw [List.take_succ_eq_append_getElem hkl, List.filter_append, HX.out, ← HV.out]; simp [H0.out]
        case measure => simp [intOf]; omega
      · rw [decide_eq_false h0] at HT
        have H0 := Lib.hid h0; clear h0
        go_wp2_with (first | (go_at_call 142; (with_reducible refine HT.out.mono ?_); rintro e w1 ⟨rfl, hE⟩; have kb := (blk_new0 wr 81 [.string s, .pointer (some ⟨b, 0, none⟩)]).ext hE; have c0 : w1.cell? ⟨wr.heap.size, 0, none⟩ = some (.string s) := (kb.cell 0).trans rfl; have c1 : w1.cell? ⟨wr.heap.size, 1, none⟩ = some (.pointer (some ⟨b, 0, none⟩)) := (kb.cell 1).trans rfl; have HE1 := Lib.hid ((Ext.alloc' _ _).trans' hE); clear hE kb) | (at_builtin; refine wpList_append_own_at _ rfl (.tmp 18) (.tmp 20) 70 rfl w.heap.size 81 i0 _ 2 24 Tryz.underlying70 hi hz0 hz1 hz2 rfl (by decide) u3 cs.length (flat2 (cs.map Co.pair)) rfl (owns_ext (HO.out.ext HE1.out).1 (ext1 _ _)) ⟨w1.heap.size, 0, none⟩ 1 1 [.string s, .pointer (some ⟨b, 0, none⟩)] rfl rfl (cell_two_new _ _ _ _) (two_one _ _ rfl rfl) (by have := HC.out; unfold maxLen; omega) (by have := HC.out; omega) (by have := HE.out.size; have := HE1.out.size; simp; omega) ?_; intro v' w2 hown hgrow _ _; have R := Lib.hid (coins_push ((HO.out.ext HE1.out).ext (ext1 _ _)) ((HB.out.ext HE1.out).ext (ext1 _ _)) ((HE.out.trans' HE1.out).trans' (ext1 _ _)) hown hgrow); clear hown hgrow))
        go_roundw
        case rel =>
          refine ⟨k + 1, cs ++ [⟨s, b, z⟩], by omega, by go_num, by have := HC.out; simp; omega, ?_, R.out.1, R.out.2⟩
          unfold nz at HV ⊢
          rw [List.take_succ_eq_append_getElem hkl, List.filter_append, HX.out, ← HV.out]; simp [H0.out]
        case measure => simp [intOf]; omega
    · obtain rfl : k = n := by omega
      go_wp2
      go_ret
      have hv : cs = nz l := by rw [HV.out, List.take_of_length_le (by rw [HL.out]; exact Nat.le_refl _)]
      exact ⟨_, rfl, hv ▸ HO.out, HE.out⟩

/-- Sorted, and without coins of nothing. -/
def RetSan (l : List Co) (w : World) (e : Ending) (w' : World) : Prop := ∃ v L, e = .returned v ∧ CoinsOwn w' w.heap.size v L ∧ L.Perm (nz l) ∧ (L.Pairwise fun a b => le (Co.s a) (Co.s b)) ∧ Ext w w'

set_option maxRecDepth 100000 in
set_option maxHeartbeats 1000000 in
theorem tSanitize (A : Option Addr) (n c : Nat) (l : List Co) (w : World) (hl : l.length = n) (hn : n ≤ 12) (h : CoinsAt w A l) :
    Calls Tryz.prog 135 #[.slice A n c] w (RetSan l w) := by
  have H1 := Lib.hid (tRemoveZero A n c l w hl (by omega) h)
  have HN := Lib.hid (show (nz l).length ≤ 12 by have : (nz l).length ≤ l.length := List.length_filter_le _ _; omega)
  clear hl h
  go_enter Tryz.func135, Tryz.ntmps135
  go_wp2_with (fail)
  go_at_call 162
  refine H1.out.mono ?_
  rintro e w1 ⟨v, rfl, hown, hE⟩
  obtain ⟨A1, c1, rfl⟩ := coins_shape hown
  have HO := Lib.hid hown; have HE := Lib.hid hE
  clear hown hE
  obtain ⟨m, hm⟩ : ∃ m, m = (nz l).length := ⟨_, rfl⟩
  rw [← hm] at HO ⊢
  have HM := Lib.hid hm; clear hm
  by_cases h0 : m = 0
  · have HZ := Lib.hid (show nz l = [] from List.length_eq_zero_iff.1 (by rw [← HM.out]; exact h0))
    subst h0
    go_wp2
    go_ret
    refine ⟨_, [], rfl, ⟨⟨rfl, Or.inr ⟨w1.heap.size, 0, #[], rfl, HE.out.size, heap_alloc_new _ _, Nat.le_refl _, Nat.zero_le _, rfl, rfl⟩⟩, fun _ h => by cases h⟩, by rw [HZ.out], List.Pairwise.nil, HE.out.trans' (Ext.alloc' _ _)⟩
  · have hd : ((m : Int) == 0) = false := by simp; omega
    clear h0
    go_wp2_with (fail)
    go_at_call 126
    refine (tSortRow HO.out HN.out).mono ?_
    rintro e w2 ⟨L, rfl, ho, hp, hs, hg⟩
    have HR := Lib.hid (And.intro ho (And.intro hp (And.intro hs (grown_old HO.out hg HE.out (Nat.le_refl _)))))
    clear ho hp hs hg
    go_wp2
    go_ret
    exact ⟨_, L, rfl, HR.out.1, HR.out.2.1, HR.out.2.2.1, HR.out.2.2.2⟩

/-- A set, or that it is none. -/
def RetMakeC (l : List Co) (w : World) (e : Ending) (w' : World) : Prop :=
  ∃ L : List Co, L.Perm (nz l) ∧ (L.Pairwise fun a b => le (Co.s a) (Co.s b)) ∧ Ext w w' ∧ ((ErrIs (L.map Co.val) none ∧ ∃ v, e = .returned (.tuple #[v, .nilIface]) ∧ CoinsOwn w' w.heap.size v L) ∨ (∃ t, ErrIs (L.map Co.val) (some t)) ∧ ∃ b, e = .returned (.tuple #[.slice none 0 0, .iface 134 (.pointer (some ⟨b, 0, none⟩))]))
/-- "invalid coin set". -/
abbrev invSet : ByteArray := ⟨#[105, 110, 118, 97, 108, 105, 100, 32, 99, 111, 105, 110, 32, 115, 101, 116]⟩

set_option maxRecDepth 100000 in
set_option maxHeartbeats 1000000 in
theorem tMakeCoins (A : Option Addr) (n c : Nat) (l : List Co) (w : World) (hl : l.length = n) (hn : n ≤ 12) (h : CoinsAt w A l) (hsz : ∀ x ∈ l, x.s.size ≤ 9223372036854775807) :
    Calls Tryz.prog 89 #[.slice A n c] w (RetMakeC l w) := by
  have H1 := Lib.hid (tSanitize A n c l w hl hn h)
  have HN := Lib.hid (show (nz l).length ≤ 12 by have : (nz l).length ≤ l.length := List.length_filter_le _ _; omega)
  have HSZ := Lib.hid hsz
  clear hl h hsz
  go_enter Tryz.func89, Tryz.ntmps89
  go_wp2_with (fail)
  go_at_call 135
  refine H1.out.mono ?_
  rintro e w1 ⟨v, L, rfl, hown, hp, hs, hE⟩
  obtain ⟨A1, c1, rfl, hc1, hc2⟩ := own_cap2 hown.1
  have HO := Lib.hid hown; have HE := Lib.hid hE; have HPS := Lib.hid (And.intro hp hs); have HC := Lib.hid (And.intro hc1 hc2)
  have HSL := Lib.hid (fun x (hx : x ∈ L) => HSZ.out x (List.mem_filter.1 (hp.mem_iff.1 hx)).1)
  have HLL := Lib.hid (show L.length ≤ 12 by rw [hp.length_eq]; exact HN.out)
  clear hown hE hp hs hc1 hc2
  go_wp2_with (fail)
  go_at_call 103
  refine (tValidate A1 L.length c1 L _ rfl (by have := HLL.out; omega) HC.out.1 HC.out.2 (own_at HO.out).1 HSL.out).mono ?_
  rintro e w2 ⟨o, ho, hr⟩
  have HOO := Lib.hid ho; clear ho
  cases o with
  | none =>
    obtain ⟨rfl, hE⟩ := hr
    have HE2 := Lib.hid hE; clear hE
    go_wp2
    go_ret2
    exact ⟨L, HPS.out.1, HPS.out.2, HE.out.trans' HE2.out, Or.inl ⟨HOO.out, _, rfl, HO.out.ext HE2.out⟩⟩
  | some t =>
    obtain ⟨b, rfl, hB, hE⟩ := hr
    have HE2 := Lib.hid hE; clear hE hB
    go_wp2_with (first | (go_at_call 136; refine (eNew invSet _).mono ?_; rintro e w3 ⟨eb, rfl, hB, hE⟩; have HE3 := Lib.hid hE; clear hB hE))
    go_ret2
    exact ⟨L, HPS.out.1, HPS.out.2, (HE.out.trans' HE2.out).trans' HE3.out, Or.inr ⟨⟨t, HOO.out⟩, eb, rfl⟩⟩
end Go.Proofs.YtagfbefgcijegaaGreatDoor

namespace Go.Proofs.YtagfbefgcijegaaGreatDoor
open Go Go.RowKit

/-- Of ascending denominations, each once, with amounts above 0. -/
def isB (l : List (ByteArray × Int)) : Bool := decide ((∀ x ∈ l, denomB x.1 = true ∧ 0 < x.2) ∧ l.Pairwise fun a b => keyLt a.1 b.1 = true)
def setB (l : List (ByteArray × Int)) : Bool := listB l && isB l
theorem setB_list {l : List (ByteArray × Int)} (h : setB l = true) : listB l = true := by unfold setB at h; simp at h; exact h.1
theorem setB_strict {l : List (ByteArray × Int)} (h : setB l = true) : l.Pairwise fun a b => keyLt a.1 b.1 = true := by
  unfold setB at h; rw [Bool.and_eq_true] at h
  have := h.2; unfold isB at this; rw [decide_eq_true_iff] at this; exact this.2
theorem setB_pos {l : List (ByteArray × Int)} (h : setB l = true) : ∀ x ∈ l, 0 < x.2 := by
  unfold setB at h; rw [Bool.and_eq_true] at h
  have := h.2; unfold isB at this; rw [decide_eq_true_iff] at this; exact fun x hx => (this.1 x hx).2
theorem setB_sorted {l : List (ByteArray × Int)} (h : setB l = true) : sortedB (l.map Prod.fst) = true := strict_sorted (setB_strict h)
theorem add_ok {l m r : List (ByteArray × Int)} (h : IsAdd (l ++ m) r) (hl : l.length ≤ 8) (hm : m.length ≤ 8) (b1 : ∀ x ∈ l, denomB x.1 = true ∧ -1099511627776 ≤ x.2 ∧ x.2 ≤ 1099511627776) (b2 : ∀ x ∈ m, denomB x.1 = true ∧ -1099511627776 ≤ x.2 ∧ x.2 ≤ 1099511627776)
    (s1 : ∀ x ∈ l, x.1.size ≤ maxLen) (s2 : ∀ x ∈ m, x.1.size ≤ maxLen) : (∀ x ∈ r, x.2.natAbs ≤ 1125899906842624) ∧ (∀ x ∈ r, x.1.size ≤ maxLen) ∧ sortedB (r.map Prod.fst) = true := by
  refine ⟨fun x hx => ?_, isAdd_size h (both s1 s2), isAdd_sorted h⟩
  have h1 := isAdd_bound (m := 1099511627776) h (both (fun x hx => by have := b1 x hx; omega) (fun x hx => by have := b2 x hx; omega)) x hx
  rw [List.length_append] at h1
  omega
theorem add_comm2 {l m r r' : List (ByteArray × Int)} (h : IsAdd (l ++ m) r) (h' : IsAdd (m ++ l) r') : r = r' :=
  sums_unique (isAdd_sums h) (isAdd_sums h') fun s => by rw [totalP_append, totalP_append]; omega
theorem add_assoc2 {a b c ab bc x y : List (ByteArray × Int)} (h1 : IsAdd (a ++ b) ab) (h2 : IsAdd (ab ++ c) x) (h3 : IsAdd (b ++ c) bc) (h4 : IsAdd (a ++ bc) y) : x = y :=
  sums_unique (isAdd_sums h2) (isAdd_sums h4) fun s => by
    rw [totalP_append, totalP_append, (isAdd_sums h1).2.2, (isAdd_sums h3).2.2, totalP_append, totalP_append]; omega
theorem add_all {a b c ab x t : List (ByteArray × Int)} (h1 : IsAdd (a ++ b) ab) (h2 : IsAdd (ab ++ c) x) (h3 : IsAdd (a ++ b ++ c) t) : x = t :=
  sums_unique (isAdd_sums h2) (isAdd_sums h3) fun s => by
    rw [totalP_append, (isAdd_sums h1).2.2, totalP_append _ (a ++ b) c]
/-- The first k are a set. -/
def IsI (l : List (ByteArray × Int)) (k : Nat) : Prop := (∀ j, (hj : j < l.length) → j < k → denomB l[j].1 = true ∧ 0 < l[j].2) ∧ ∀ i j, (hj : j < l.length) → (h : i < j) → j < k → keyLt l[i].1 l[j].1 = true
theorem isI_end {l : List (ByteArray × Int)} (h : IsI l l.length) : isB l = true := by
  unfold isB; rw [decide_eq_true_iff, List.pairwise_iff_getElem]
  refine ⟨fun x hx => ?_, fun i j hi hj hij => h.2 i j hj hij hj⟩
  obtain ⟨j, hj, rfl⟩ := List.getElem_of_mem hx
  exact h.1 j hj hj
theorem isB_bad {l : List (ByteArray × Int)} {k : Nat} (hk : k < l.length) (h : ¬ (denomB l[k].1 = true ∧ 0 < l[k].2)) : isB l = false := by
  unfold isB; rw [decide_eq_false_iff_not]; rintro ⟨h1, _⟩; exact h (h1 _ (List.getElem_mem hk))
theorem isB_bad2 {l : List (ByteArray × Int)} {i j : Nat} (hj : j < l.length) (hij : i < j) (h : keyLt l[i].1 l[j].1 = false) : isB l = false := by
  unfold isB; rw [decide_eq_false_iff_not, List.pairwise_iff_getElem]; rintro ⟨_, h2⟩
  rw [h2 i j (by omega) hj hij] at h; cases h
theorem isI_step {l : List (ByteArray × Int)} {k : Nat} (h : IsI l k) (hk : k < l.length) (h1 : denomB l[k].1 = true) (h2 : 0 < l[k].2) (h3 : ∀ m, (hm : m + 1 = k) → keyLt l[m].1 l[k].1 = true) : IsI l (k + 1) := by
  refine ⟨fun j hj hjk => ?_, fun i j hj hij hjk => ?_⟩
  · by_cases e : j = k
    · subst e; exact ⟨h1, h2⟩
    · exact h.1 j hj (by omega)
  · by_cases e : j = k
    · subst e
      by_cases e2 : i + 1 = j
      · exact h3 i e2
      · obtain ⟨m, rfl⟩ : ∃ m, j = m + 1 := ⟨j - 1, by omega⟩
        exact keyLt_trans (h.2 i m (by omega) (by omega) (by omega)) (h3 m rfl)
    · exact h.2 i j hj hij (by omega)
theorem ext_ad (w : World) (o : Obj) (n : Nat) : Ext w ((w.alloc o).drewN n) := (Ext.alloc' _ _).trans' (Ext.drewN' _ _)

set_option maxRecDepth 100000 in
set_option maxHeartbeats 2000000 in
theorem sIsSum (A : Option Addr) (n c : Nat) (l : List (ByteArray × Int)) (w : World) (hl : l.length = n) (hf : Fits n l) (h : PlainAt w A l) :
    Calls Tryz.prog 41 #[.slice A n c] w (RetE (.bool (isB l)) w) := by
  obtain ⟨hn, hsz⟩ := hf
  have HL := Lib.hid hl; have HP := Lib.hid h; have HSZ := Lib.hid hsz
  clear hl h hsz
  go_enter Tryz.func41, Tryz.ntmps41
  go_wp2
  go_loopw [7] (fun i wr => ∃ (k : Nat), k ≤ n ∧ i = .int .i64 k ∧ IsI l k ∧ Ext w wr) (fun i _ => n - (intOf i).toNat)
  case atStart => exact ⟨0, Nat.zero_le _, rfl, ⟨fun j _ h => absurd h (Nat.not_lt_zero _), fun i j _ _ h => absurd h (Nat.not_lt_zero _)⟩, Ext.refl _⟩
  case round =>
    obtain ⟨k, hk, rfl, hq, hE⟩ := hrel
    have HQ := Lib.hid hq; have HE := Lib.hid hE
    clear hq hE
    by_cases hlt : k < n
    · have hkl : k < l.length := by rw [HL.out]; exact hlt
      obtain ⟨s, hs⟩ : ∃ s, s = l[k].1 := ⟨_, rfl⟩
      obtain ⟨z, hzz⟩ : ∃ z, z = l[k].2 := ⟨_, rfl⟩
      obtain ⟨g, o, hA, hc⟩ := HP.out (by intro e; have := congrArg List.length e; simp at this; rw [this] at hkl; simp at hkl)
      subst hA
      have HC := Lib.hid hc
      have hck := hc k (by simpa using hkl)
      have cs0 : wr.cell? ⟨g, o + k * 2, none⟩ = some (.string s) := HE.out.cell' (by rw [hck.1, hs]; simp [plain])
      have cs1 : wr.cell? ⟨g, o + k * 2 + 1, none⟩ = some (.int .i64 z) := HE.out.cell' (by rw [hck.2, hzz]; simp [plain])
      have HD := Lib.hid (fun W : World => sDenom s W (by rw [hs]; have := HSZ.out _ (List.getElem_mem hkl); omega))
      have HS := Lib.hid hs; have HZ := Lib.hid hzz; clear hs hzz hck hc
      obtain ⟨r, hr⟩ : ∃ r, r = denomB s := ⟨_, rfl⟩
      rw [← hr] at HD
      have HR := Lib.hid hr; clear hr
      cases r
      · have F := Lib.hid (isB_bad hkl (by rw [← HS.out, ← HR.out]; simp))
        go_wp2
        go_quiet ((go_at_call 32; exact Calls.quiet_of_same (HD.out _)))
        go_wp2
        go_ret
        rw [F.out]; exact ⟨rfl, HE.out.trans' (ext_ad _ _ _)⟩
      · by_cases hz1 : z ≤ 0
        · have F := Lib.hid (isB_bad hkl (by rw [← HS.out, ← HZ.out, ← HR.out]; omega))
          have d1 : decide (z ≤ 0) = true := by simpa using hz1
          go_wp2
          go_quiet ((go_at_call 32; exact Calls.quiet_of_same (HD.out _)))
          go_wp2
          go_ret
          rw [F.out]; exact ⟨rfl, HE.out.trans' (ext_ad _ _ _)⟩
        · have d1 : decide (z ≤ 0) = false := by simpa using hz1
          rcases k with _ | m
          · have ST := Lib.hid (isI_step HQ.out hkl (by rw [← HS.out]; exact HR.out.symm) (by rw [← HZ.out]; omega) (fun m hm => absurd hm (by omega)))
            have cs0' : wr.cell? ⟨g, o, none⟩ = some (.string s) := by simpa using cs0
            have cs1' : wr.cell? ⟨g, o + 1, none⟩ = some (.int .i64 z) := by simpa using cs1
            clear cs0 cs1
            go_wp2
            go_quiet ((go_at_call 32; exact Calls.quiet_of_same (HD.out _)))
            go_wp2
            go_roundw
            case rel => exact ⟨0 + 1, by omega, by go_num, ST.out, HE.out.trans' (ext_ad _ _ _)⟩
            case measure => simp [intOf]; omega
          · obtain ⟨t, ht⟩ : ∃ t, t = l[m].1 := ⟨_, rfl⟩
            have ct0 : wr.cell? ⟨g, o + m * 2, none⟩ = some (.string t) := HE.out.cell' (by rw [(HC.out m (by simp; omega)).1, ht]; simp [plain])
            have HT := Lib.hid ht; clear ht
            have gl := cell_lt ct0
            have b0 : (0 : Int) ≤ (m : Int) := by omega
            have hm5 : IntKind.i64.wrap (m : Int) = (m : Int) := by rw [IntKind.wrap_i64]; omega
            have b1 : (m : Int) < (n : Int) := by omega
            cases hlt3 : keyLt t s
            · have F := Lib.hid (isB_bad2 hkl (Nat.lt_succ_self m) (by rw [← HT.out, ← HS.out]; exact hlt3))
              have hb : Op.bytesLess t.toList s.toList = false := hlt3
              clear hlt3
              go_wp2
              go_quiet ((go_at_call 32; exact Calls.quiet_of_same (HD.out _)))
              go_wp2
              go_ret
              rw [F.out]; exact ⟨rfl, HE.out.trans' (ext_ad _ _ _)⟩
            · have h3 : ∀ m', (hm : m' + 1 = m + 1) → keyLt (l[m']'(by omega)).1 l[m + 1].1 = true := by
                intro m' hm
                obtain rfl : m' = m := by omega
                rw [← HT.out, ← HS.out]; exact hlt3
              have ST := Lib.hid (isI_step HQ.out hkl (by rw [← HS.out]; exact HR.out.symm) (by rw [← HZ.out]; omega) h3)
              clear h3
              have hb : Op.bytesLess t.toList s.toList = true := hlt3
              clear hlt3
              go_wp2
              go_quiet ((go_at_call 32; exact Calls.quiet_of_same (HD.out _)))
              go_wp2
              go_roundw
              case rel => exact ⟨m + 1 + 1, by omega, by go_num, ST.out, HE.out.trans' (ext_ad _ _ _)⟩
              case measure => simp [intOf]; omega
    · obtain rfl : k = n := by omega
      have F := Lib.hid (isI_end (l := l) (by rw [HL.out]; exact HQ.out))
      go_wp2
      go_ret
      rw [F.out]; exact ⟨rfl, HE.out⟩

set_option maxRecDepth 100000 in
theorem sIsSumSet (A : Option Addr) (n c : Nat) (l : List (ByteArray × Int)) (w : World) (hl : l.length = n) (hf : Fits n l) (h : PlainAt w A l) :
    Calls Tryz.prog 28 #[.slice A n c] w (RetE (.bool (setB l)) w) := by
  have H1 := Lib.hid (sIsSumList A n c l w hl hf h)
  have H2 := Lib.hid (fun (W : World) (e : Ext w W) => sIsSum A n c l W hl hf (h.ext e))
  clear hl hf h
  obtain ⟨b1, hb1⟩ : ∃ b, b = listB l := ⟨_, rfl⟩
  obtain ⟨b2, hb2⟩ : ∃ b, b = isB l := ⟨_, rfl⟩
  have F := Lib.hid (show setB l = (b1 && b2) by unfold setB; rw [hb1, hb2])
  rw [← hb1] at H1; rw [← hb2] at H2
  clear hb1 hb2
  cases b1
  · go_enter Tryz.func28, Tryz.ntmps28
    go_wp2_with (first | (go_at_call 20; (with_reducible refine H1.out.mono ?_); rintro e w1 ⟨rfl, hE⟩; have HE1 := Lib.hid hE; clear hE))
    go_ret
    rw [F.out]; exact ⟨rfl, HE1.out⟩
  · go_enter Tryz.func28, Tryz.ntmps28
    go_wp2_with (first | (go_at_call 20; (with_reducible refine H1.out.mono ?_); rintro e w1 ⟨rfl, hE⟩; have HE1 := Lib.hid hE; clear hE) | (go_at_call 41; (with_reducible refine (H2.out _ HE1.out).mono ?_); rintro e w2 ⟨rfl, hE⟩; have HE2 := Lib.hid hE; clear hE))
    go_ret
    rw [F.out]; exact ⟨by cases b2 <;> rfl, HE1.out.trans' HE2.out⟩
end Go.Proofs.YtagfbefgcijegaaGreatDoor

namespace Go.Proofs.YtagfbefgcijegaaGreatDoor
open Go Go.RowKit

/-- New coins in plain data, or that they are no set. -/
def RetNewOf (l : List (ByteArray × Int)) (w : World) (e : Ending) (w' : World) : Prop :=
  ∃ r, r.Perm (l.filter fun x => x.2 ≠ 0) ∧ (r.Pairwise fun a b => le a.1 b.1) ∧ Ext w w' ∧ ((ErrIs r none ∧ ∃ v, e = .returned (.tuple #[v, .bool true]) ∧ PlainOwn w' w.heap.size 37 v r) ∨ (∃ t, ErrIs r (some t)) ∧ e = .returned (.tuple #[.slice none 0 0, .bool false]))
theorem nz_val {cs : List Co} {l : List (ByteArray × Int)} (h : cs.map Co.val = l) : (nz cs).map Co.val = l.filter fun x => x.2 ≠ 0 := by
  rw [← h]; unfold nz; rw [List.filter_map]; rfl
theorem size_val {cs : List Co} {l : List (ByteArray × Int)} (h : cs.map Co.val = l) (hs : ∀ x ∈ l, x.1.size ≤ maxLen) : ∀ x ∈ cs, x.s.size ≤ 9223372036854775807 := by
  intro x hx
  have := hs x.val (by rw [← h]; exact List.mem_map_of_mem hx)
  unfold maxLen at this
  exact Nat.le_trans this (by decide)

set_option maxRecDepth 100000 in
set_option maxHeartbeats 1000000 in
theorem iNewOf (A : Option Addr) (n c : Nat) (l : List (ByteArray × Int)) (w : World) (hl : l.length = n) (hn : n ≤ 12) (h : PlainAt w A l) (hz : ∀ x ∈ l, -maxI ≤ x.2 ∧ x.2 ≤ maxI) (hsz : ∀ x ∈ l, x.1.size ≤ maxLen) :
    Calls Tryz.prog 40 #[.slice A n c] w (RetNewOf l w) := by
  have H1 := Lib.hid (iCoins A n c l w hl (by omega) h hz)
  have HL := Lib.hid hl; have HZ := Lib.hid hz; have HSZ := Lib.hid hsz
  clear hl h hz hsz
  go_enter Tryz.func40, Tryz.ntmps40
  go_wp2_with (fail)
  go_at_call 72
  refine H1.out.mono ?_
  rintro e w1 ⟨v, cs, rfl, hcv, hown, hE⟩
  obtain ⟨A1, c1, rfl⟩ := coins_shape hown
  have HO := Lib.hid (own_at hown).1; have HV := Lib.hid hcv; have HE := Lib.hid hE; have HN := Lib.hid (show cs.length = n by rw [← HL.out, ← hcv]; simp)
  clear hown hcv hE
  go_wp2_with (fail)
  go_at_call 89
  refine (tMakeCoins A1 cs.length c1 cs _ rfl (by have := HN.out; omega) HO.out (size_val HV.out HSZ.out)).mono ?_
  rintro e w2 ⟨L, hp, hs, hE2, hr⟩
  have HE2 := Lib.hid (HE.out.trans' hE2)
  have HP := Lib.hid (show (L.map Co.val).Perm (l.filter fun x => x.2 ≠ 0) by rw [← nz_val HV.out]; exact hp.map _)
  have HS := Lib.hid (show (L.map Co.val).Pairwise fun a b => le a.1 b.1 by rw [List.pairwise_map]; exact hs)
  have HB := Lib.hid (show ∀ x ∈ L, -maxI ≤ x.z ∧ x.z ≤ maxI from fun x hx => HZ.out x.val (by rw [← HV.out]; exact List.mem_map_of_mem (List.mem_filter.1 (hp.mem_iff.1 hx)).1))
  have HLN := Lib.hid (show L.length ≤ 12 by
    have h1 := hp.length_eq
    have h2 : (nz cs).length ≤ cs.length := List.length_filter_le _ _
    have := HN.out; omega)
  have HW1 := Lib.hid HE.out.size
  clear hp hs hE2
  rcases hr with ⟨ho, v2, rfl, hown2⟩ | ⟨ho, b, rfl⟩
  · obtain ⟨A2, c2, rfl⟩ := coins_shape hown2
    have HO2 := Lib.hid (own_at hown2).1; have HOO := Lib.hid ho
    clear hown2 ho
    go_wp2_with (fail)
    go_at_call 74
    refine (iBackCoins A2 L.length c2 L _ rfl (by have := HLN.out; omega) HO2.out HB.out).mono ?_
    rintro e w3 ⟨v3, rfl, ho3, hE3⟩
    have HO3 := Lib.hid ho3; have HE3 := Lib.hid hE3
    clear ho3 hE3
    go_wp2
    go_ret2
    exact ⟨_, HP.out, HS.out, HE2.out.trans' HE3.out, Or.inl ⟨HOO.out, v3, rfl, row_low HO3.out HE2.out.size⟩⟩
  · have HOO := Lib.hid ho
    clear ho
    go_wp2
    go_ret2
    exact ⟨_, HP.out, HS.out, HE2.out, Or.inr ⟨HOO.out, rfl⟩⟩

/-- A list is a set just if nothing is wrong with it. -/
theorem isB_err {l : List (ByteArray × Int)} : ErrIs l none ↔ isB l = true := by
  constructor
  · intro h
    have hz : ∀ j, (hj : j < l.length) → denomB l[j].1 = true ∧ 0 < l[j].2 := by
      intro j hj
      have := h j
      unfold errAt at this
      rw [List.getElem?_eq_getElem hj] at this
      simp only at this
      unfold errOne at this
      split at this
      · cases this
      · rename_i hd
        refine ⟨by simpa using hd, ?_⟩
        split at this
        · split at this
          · cases this
          · split at this
            · cases this
            · split at this
              · cases this
              · omega
        · split at this
          · cases this
          · omega
    have hs : ∀ k, (hk : k + 1 < l.length) → keyLt l[k].1 l[k + 1].1 = true := by
      intro k hk
      have := h (k + 1)
      rw [errAt_succ hk] at this
      unfold errOne at this
      split at this
      · cases this
      · simp only at this
        split at this
        · cases this
        · rename_i h1
          split at this
          · cases this
          · rename_i h2
            exact key_lt_of_le_ne (by unfold le; simpa using h1) (fun e => h2 e.symm)
    have : ∀ k, k ≤ l.length → IsI l k := by
      intro k
      induction k with
      | zero => exact fun _ => ⟨fun j _ h => absurd h (Nat.not_lt_zero _), fun i j _ _ h => absurd h (Nat.not_lt_zero _)⟩
      | succ k ih => exact fun hk => isI_step (ih (by omega)) (by omega) (hz k (by omega)).1 (hz k (by omega)).2 (fun m hm => by subst hm; exact hs m (by omega))
    exact isI_end (this _ (Nat.le_refl _))
  · intro h j
    unfold isB at h; rw [decide_eq_true_iff, List.pairwise_iff_getElem] at h
    rcases Nat.lt_or_ge j l.length with hj | hj
    · have hx := h.1 _ (List.getElem_mem hj)
      cases j with
      | zero => rw [errAt_zero hj]; unfold errOne; rw [if_neg (by rw [hx.1]; simp)]; exact if_neg (by omega)
      | succ k =>
        have hlt := h.2 k (k + 1) (by omega) hj (by omega)
        rw [errAt_succ hj]; unfold errOne; rw [if_neg (by rw [hx.1]; simp)]
        show (if keyLt _ _ = true then _ else _) = _
        rw [if_neg (by rw [keyLt_asymm hlt]; simp), if_neg (fun e => by rw [← e, keyLt_irrefl] at hlt; cases hlt), if_neg (by omega)]
    · exact errAt_out hj
theorem isNone_isB {l : List (ByteArray × Int)} {o : Option ByteArray} (h : ErrIs l o) : o.isNone = isB l := by
  cases o with
  | none => exact (isB_err.1 h).symm
  | some t =>
    cases hb : isB l
    · rfl
    · have := errIs_unique h (isB_err.2 hb); cases this
theorem isB_perm {r r' : List (ByteArray × Int)} (hp : r.Perm r') (hs : r.Pairwise fun a b => le a.1 b.1) (hs' : r'.Pairwise fun a b => le a.1 b.1) : isB r = isB r' := by
  have key : ∀ {a b : List (ByteArray × Int)}, a.Perm b → (b.Pairwise fun a b => le a.1 b.1) → isB a = true → isB b = true := by
    intro a b hp hs h
    unfold isB at h ⊢
    rw [decide_eq_true_iff] at h ⊢
    refine ⟨fun x hx => h.1 x (hp.mem_iff.2 hx), once_strict hs (hp.pairwise (h.2.imp fun h e => by rw [e, keyLt_irrefl] at h; cases h) fun h e => h e.symm)⟩
  cases h : isB r
  · cases h' : isB r'
    · rfl
    · rw [key hp.symm hs h'] at h; cases h
  · exact (key hp hs' h).symm
theorem isB_strict {l : List (ByteArray × Int)} (h : isB l = true) : l.Pairwise fun a b => keyLt a.1 b.1 = true := by
  unfold isB at h; rw [decide_eq_true_iff] at h; exact h.2
theorem fits_of {n : Nat} {l r : List (ByteArray × Int)} (h : Fits n l) (hr : ∀ x ∈ r, x ∈ l) (hl : r.length ≤ 2147483647) : Fits r.length r := ⟨hl, fun x hx => h.2 x (hr x hx)⟩
/-- NewOf, as the law asks: a set and the sorted list itself; or none. -/
theorem newof_fact {l r' : List (ByteArray × Int)} {w w' : World} {e : Ending} (h : RetNewOf l w e w') (hp : r'.Perm (l.filter fun x => x.2 ≠ 0)) (hs : r'.Pairwise fun a b => le a.1 b.1) :
    Ext w w' ∧ ((isB r' = true ∧ ∃ v, e = .returned (.tuple #[v, .bool true]) ∧ PlainOwn w' w.heap.size 37 v r') ∨ isB r' = false ∧ e = .returned (.tuple #[.slice none 0 0, .bool false])) := by
  obtain ⟨r, hp1, hs1, hE, h⟩ := h
  have hb := isB_perm (hp1.trans hp.symm) hs1 hs
  refine ⟨hE, ?_⟩
  rcases h with ⟨ho, v, rfl, hv⟩ | ⟨⟨t, ho⟩, rfl⟩
  · have hbr := isB_err.1 ho
    have : r = r' := asc_unique (key := Prod.fst) (hp1.trans hp.symm) hs1 (isB_strict (hb ▸ hbr))
    subst this
    exact Or.inl ⟨hbr, v, rfl, hv⟩
  · refine Or.inr ⟨?_, rfl⟩
    rw [← hb]
    cases hc : isB r
    · rfl
    · have := errIs_unique (isB_err.2 hc) ho; cases this
end Go.Proofs.YtagfbefgcijegaaGreatDoor

namespace Go.Proofs.YtagfbefgcijegaaGreatDoor
open Go Go.RowKit

theorem ext_ad0 (w : World) (o : Obj) : Ext w (w.alloc o) := Ext.alloc' _ _
theorem ext_ad1 (w : World) (o : Obj) (n : Nat) : Ext w ((w.alloc o).drewN n) := (Ext.alloc' _ _).trans' (Ext.drewN' _ _)
theorem ext_ad2 (w : World) (o : Obj) (n m : Nat) : Ext w (((w.alloc o).drewN n).drewN m) := ((Ext.alloc' _ _).trans' (Ext.drewN' _ _)).trans' (Ext.drewN' _ _)
/-- The words of the first thing that is wrong. -/
def RetWords (l : List (ByteArray × Int)) (w : World) (e : Ending) (w' : World) : Prop := ∃ o, ErrIs l o ∧ e = .returned (.string (o.getD ⟨#[]⟩)) ∧ Ext w w'
theorem errs_some {l : List (ByteArray × Int)} {k : Nat} {t : ByteArray} (h : ∀ j, j < k → errAt l j = none) (e : errAt l k = some t) : ErrIs l (some t) := ⟨k, e, h⟩
theorem errs_step {l : List (ByteArray × Int)} {k : Nat} (h : ∀ j, j < k → errAt l j = none) (e : errAt l k = none) : ∀ j, j < k + 1 → errAt l j = none := fun j hj => by
  by_cases f : j = k
  · subst f; exact e
  · exact h j (by omega)

set_option maxRecDepth 100000 in
set_option maxHeartbeats 4000000 in
theorem sSumErr (A : Option Addr) (n c : Nat) (l : List (ByteArray × Int)) (w : World) (hl : l.length = n) (hf : Fits n l) (h : PlainAt w A l) :
    Calls Tryz.prog 51 #[.slice A n c] w (RetWords l w) := by
  obtain ⟨hn, hsz⟩ := hf
  have HL := Lib.hid hl; have HP := Lib.hid h; have HSZ := Lib.hid hsz
  clear hl h hsz
  go_enter Tryz.func51, Tryz.ntmps51
  go_wp2
  go_loopw [7] (fun i wr => ∃ (k : Nat), k ≤ n ∧ i = .int .i64 k ∧ (∀ j, j < k → errAt l j = none) ∧ Ext w wr) (fun i _ => n - (intOf i).toNat)
  case atStart => exact ⟨0, Nat.zero_le _, rfl, fun j h => absurd h (Nat.not_lt_zero _), Ext.refl _⟩
  case round =>
    obtain ⟨k, hk, rfl, hq, hE⟩ := hrel
    have HQ := Lib.hid hq; have HE := Lib.hid hE
    clear hq hE
    by_cases hlt : k < n
    · have hkl : k < l.length := by rw [HL.out]; exact hlt
      obtain ⟨s, hs⟩ : ∃ s, s = l[k].1 := ⟨_, rfl⟩
      obtain ⟨z, hzz⟩ : ∃ z, z = l[k].2 := ⟨_, rfl⟩
      obtain ⟨g, o, hA, hc⟩ := HP.out (by intro e; have := congrArg List.length e; simp at this; rw [this] at hkl; simp at hkl)
      subst hA
      have HC := Lib.hid hc
      have hck := hc k (by simpa using hkl)
      have cs0 : wr.cell? ⟨g, o + k * 2, none⟩ = some (.string s) := HE.out.cell' (by rw [hck.1, hs]; simp [plain])
      have cs1 : wr.cell? ⟨g, o + k * 2 + 1, none⟩ = some (.int .i64 z) := HE.out.cell' (by rw [hck.2, hzz]; simp [plain])
      have HD := Lib.hid (fun W : World => sDenom s W (by rw [hs]; have := HSZ.out _ (List.getElem_mem hkl); omega))
      have HX := Lib.hid (show l[k] = (s, z) by rw [hs, hzz])
      clear hs hzz hck hc
      obtain ⟨r, hr⟩ : ∃ r, r = denomB s := ⟨_, rfl⟩
      rw [← hr] at HD
      have HR := Lib.hid hr.symm; clear hr
      rcases k with _ | m
      · have FX := Lib.hid (show errAt l 0 = errOne none (s, z) by rw [errAt_zero hkl, HX.out])
        have cs0' : wr.cell? ⟨g, o, none⟩ = some (.string s) := by simpa using cs0
        have cs1' : wr.cell? ⟨g, o + 1, none⟩ = some (.int .i64 z) := by simpa using cs1
        clear cs0 cs1
        cases r
        · have F := Lib.hid (errs_some HQ.out (FX.out.trans (show errOne none (s, z) = some invDenom by unfold errOne; rw [if_pos HR.out])))
          go_wp2_with (first | (go_at_call 32; (with_reducible refine (HD.out _).mono ?_); rintro e w1 ⟨rfl, rfl⟩))
          go_ret
          exact ⟨some invDenom, F.out, rfl, HE.out.trans' (by first | exact ext_ad0 _ _ | exact ext_ad1 _ _ _ | exact ext_ad2 _ _ _ _)⟩
        · by_cases hz1 : z ≤ 0
          · have F := Lib.hid (errs_some HQ.out (FX.out.trans (show errOne none (s, z) = some notPos by unfold errOne; rw [if_neg (by rw [HR.out]; simp)]; exact if_pos hz1)))
            have d1 : decide (z ≤ 0) = true := by simpa using hz1
            go_wp2_with (first | (go_at_call 32; (with_reducible refine (HD.out _).mono ?_); rintro e w1 ⟨rfl, rfl⟩))
            go_quiet (fail)
            go_wp2
            go_quiet (fail)
            go_wp2
            go_ret
            exact ⟨some notPos, F.out, rfl, HE.out.trans' (by first | exact ext_ad0 _ _ | exact ext_ad1 _ _ _ | exact ext_ad2 _ _ _ _)⟩
          · have ST := Lib.hid (errs_step HQ.out (FX.out.trans (show errOne none (s, z) = none by unfold errOne; rw [if_neg (by rw [HR.out]; simp)]; exact if_neg hz1)))
            have d1 : decide (z ≤ 0) = false := by simpa using hz1
            go_wp2_with (first | (go_at_call 32; (with_reducible refine (HD.out _).mono ?_); rintro e w1 ⟨rfl, rfl⟩))
            go_quiet (fail)
            go_wp2
            go_quiet (fail)
            go_wp2
            go_roundw
            case rel => exact ⟨0 + 1, by omega, by go_num, ST.out, HE.out.trans' (by first | exact ext_ad0 _ _ | exact ext_ad1 _ _ _ | exact ext_ad2 _ _ _ _)⟩
            case measure => simp [intOf]; omega
      · obtain ⟨t, ht⟩ : ∃ t, t = l[m].1 := ⟨_, rfl⟩
        have ct0 : wr.cell? ⟨g, o + m * 2, none⟩ = some (.string t) := HE.out.cell' (by rw [(HC.out m (by simp; omega)).1, ht]; simp [plain])
        have FX := Lib.hid (show errAt l (m + 1) = errOne (some t) (s, z) by rw [errAt_succ hkl, HX.out, ht])
        clear ht
        have gl := cell_lt ct0
        have b0 : (0 : Int) ≤ (m : Int) := by omega
        have b1 : (m : Int) < (n : Int) := by omega
        have hm5 : IntKind.i64.wrap (m : Int) = (m : Int) := by rw [IntKind.wrap_i64]; omega
        cases r
        · have F := Lib.hid (errs_some HQ.out (FX.out.trans (show errOne (some t) (s, z) = some invDenom by unfold errOne; rw [if_pos HR.out])))
          go_wp2_with (first | (go_at_call 32; (with_reducible refine (HD.out _).mono ?_); rintro e w1 ⟨rfl, rfl⟩))
          go_ret
          exact ⟨some invDenom, F.out, rfl, HE.out.trans' (by first | exact ext_ad0 _ _ | exact ext_ad1 _ _ _ | exact ext_ad2 _ _ _ _)⟩
        · cases h1 : keyLt s t
          · have g1 : Op.bytesLess s.toList t.toList = false := h1
            by_cases h2 : s = t
            · subst h2
              have F := Lib.hid (errs_some HQ.out (FX.out.trans (show errOne (some s) (s, z) = some duplDenom by unfold errOne; rw [if_neg (by rw [HR.out]; simp)]; show (if keyLt s s = true then _ else _) = _; rw [if_neg (by rw [h1]; simp), if_pos rfl])))
              clear h1
              go_wp2_with (first | (go_at_call 32; (with_reducible refine (HD.out _).mono ?_); rintro e w1 ⟨rfl, rfl⟩))
              go_quiet (fail)
              go_wp2
              go_quiet (fail)
              go_wp2
              go_ret
              exact ⟨some duplDenom, F.out, rfl, HE.out.trans' (by first | exact ext_ad0 _ _ | exact ext_ad1 _ _ _ | exact ext_ad2 _ _ _ _)⟩
            · have g2 : (s.toList == t.toList) = false := by rw [key_beq]; simpa using h2
              by_cases hz1 : z ≤ 0
              · have F := Lib.hid (errs_some HQ.out (FX.out.trans (show errOne (some t) (s, z) = some notPos by unfold errOne; rw [if_neg (by rw [HR.out]; simp)]; show (if keyLt s t = true then _ else _) = _; rw [if_neg (by rw [h1]; simp), if_neg h2, if_pos hz1])))
                have d1 : decide (z ≤ 0) = true := by simpa using hz1
                clear h1 h2
                go_wp2_with (first | (go_at_call 32; (with_reducible refine (HD.out _).mono ?_); rintro e w1 ⟨rfl, rfl⟩))
                go_quiet (fail)
                go_wp2
                go_quiet (fail)
                go_wp2
                go_ret
                exact ⟨some notPos, F.out, rfl, HE.out.trans' (by first | exact ext_ad0 _ _ | exact ext_ad1 _ _ _ | exact ext_ad2 _ _ _ _)⟩
              · have ST := Lib.hid (errs_step HQ.out (FX.out.trans (show errOne (some t) (s, z) = none by unfold errOne; rw [if_neg (by rw [HR.out]; simp)]; show (if keyLt s t = true then _ else _) = _; rw [if_neg (by rw [h1]; simp), if_neg h2, if_neg hz1])))
                have d1 : decide (z ≤ 0) = false := by simpa using hz1
                clear h1 h2
                go_wp2_with (first | (go_at_call 32; (with_reducible refine (HD.out _).mono ?_); rintro e w1 ⟨rfl, rfl⟩))
                go_quiet (fail)
                go_wp2
                go_quiet (fail)
                go_wp2
                go_roundw
                case rel => exact ⟨m + 1 + 1, by omega, by go_num, ST.out, HE.out.trans' (by first | exact ext_ad0 _ _ | exact ext_ad1 _ _ _ | exact ext_ad2 _ _ _ _)⟩
                case measure => simp [intOf]; omega
          · have g1 : Op.bytesLess s.toList t.toList = true := h1
            have F := Lib.hid (errs_some HQ.out (FX.out.trans (show errOne (some t) (s, z) = some notSorted by unfold errOne; rw [if_neg (by rw [HR.out]; simp)]; show (if keyLt s t = true then _ else _) = _; rw [if_pos h1])))
            clear h1
            go_wp2_with (first | (go_at_call 32; (with_reducible refine (HD.out _).mono ?_); rintro e w1 ⟨rfl, rfl⟩))
            go_quiet (fail)
            go_wp2
            go_ret
            exact ⟨some notSorted, F.out, rfl, HE.out.trans' (by first | exact ext_ad0 _ _ | exact ext_ad1 _ _ _ | exact ext_ad2 _ _ _ _)⟩
    · obtain rfl : k = n := by omega
      have F := Lib.hid (show ErrIs l none from fun j => by
        rcases Nat.lt_or_ge j k with e | e
        · exact HQ.out j e
        · exact errAt_out (by rw [HL.out]; exact e))
      go_wp2
      go_ret
      exact ⟨none, F.out, rfl, HE.out⟩

set_option maxRecDepth 100000 in
theorem iCoinsErr (A : Option Addr) (n c : Nat) (l : List (ByteArray × Int)) (w : World) (hl : l.length = n) (hn : n ≤ 1000) (h : PlainAt w A l) (hz : ∀ x ∈ l, -maxI ≤ x.2 ∧ x.2 ≤ maxI) (hsz : ∀ x ∈ l, x.1.size ≤ maxLen) :
    Calls Tryz.prog 52 #[.slice A n c] w (RetWords l w) := by
  have H1 := Lib.hid (iCoins A n c l w hl (by omega) h hz)
  have HL := Lib.hid hl; have HSZ := Lib.hid hsz
  clear hl h hz hsz
  go_enter Tryz.func52, Tryz.ntmps52
  go_wp2_with (fail)
  go_at_call 72
  refine H1.out.mono ?_
  rintro e w1 ⟨v, cs, rfl, hcv, hown, hE⟩
  obtain ⟨A1, c1, rfl, hc1, hc2⟩ := own_cap2 hown.1
  have HO := Lib.hid (own_at hown).1; have HV := Lib.hid hcv; have HE := Lib.hid hE; have HN := Lib.hid (show cs.length = n by rw [← HL.out, ← hcv]; simp); have HC := Lib.hid (And.intro hc1 hc2)
  clear hown hcv hE hc1 hc2
  have HSC := Lib.hid (show ∀ x ∈ cs, x.s.size ≤ 9223372036854775807 from fun x hx => by
    have := HSZ.out x.val (by rw [← HV.out]; exact List.mem_map_of_mem hx)
    unfold maxLen at this; exact Nat.le_trans this (by decide))
  go_wp2_with (fail)
  go_at_call 103
  refine (tValidate A1 cs.length c1 cs _ rfl (by have := HN.out; omega) HC.out.1 HC.out.2 HO.out HSC.out).mono ?_
  rintro e w2 ⟨o, ho, hr⟩
  rw [HV.out] at ho
  have HOO := Lib.hid ho; clear ho
  cases o with
  | none =>
    obtain ⟨rfl, hE⟩ := hr
    have HE2 := Lib.hid hE; clear hE
    go_wp2_with (first | (go_at_call 102; refine (iWordNil _).mono ?_; rintro e w3 ⟨rfl, rfl⟩))
    go_ret
    exact ⟨none, HOO.out, rfl, HE.out.trans' HE2.out⟩
  | some t =>
    obtain ⟨b, rfl, hB, hE⟩ := hr
    have HE2 := Lib.hid hE; have HB := Lib.hid hB; clear hE hB
    go_wp2_with (first | (go_at_call 102; refine (iWordErr t b _ HB.out).mono ?_; rintro e w3 ⟨rfl, rfl⟩))
    go_ret
    exact ⟨some t, HOO.out, rfl, HE.out.trans' HE2.out⟩
end Go.Proofs.YtagfbefgcijegaaGreatDoor

namespace Go.Proofs.YtagfbefgcijegaaGreatDoor
open Go Go.RowKit

def zeroB (l : List (ByteArray × Int)) : Bool := l.all fun x => decide (x.2 = 0)
def posB (l : List (ByteArray × Int)) : Bool := !l.isEmpty && l.all fun x => decide (0 < x.2)
def negB (l : List (ByteArray × Int)) : Bool := l.any fun x => decide (x.2 < 0)
theorem sgn_neg (z : Int) : (sgn z == -1) = decide (z < 0) := by
  unfold sgn
  by_cases h1 : z < 0
  · rw [if_pos h1]; simp [h1]
  · rw [if_neg h1]
    by_cases h2 : 0 < z
    · rw [if_pos h2]; simp [h1]
    · rw [if_neg h2]; simp [h1]
theorem sgn_zero' (z : Int) : (sgn z == 0) = decide (z = 0) := by
  unfold sgn
  by_cases h1 : z < 0
  · rw [if_pos h1]; have : z ≠ 0 := by omega
    simp [this]
  · rw [if_neg h1]
    by_cases h2 : 0 < z
    · rw [if_pos h2]; have : z ≠ 0 := by omega
      simp [this]
    · rw [if_neg h2]; have : z = 0 := by omega
      simp [this]
theorem zero_val {cs : List Co} {l : List (ByteArray × Int)} (h : cs.map Co.val = l) : (cs.all fun x => sgn x.z == 0) = zeroB l := by
  rw [← h]; unfold zeroB; rw [List.all_map]; congr 1; funext x; rw [sgn_zero']; rfl
theorem pos_val {cs : List Co} {l : List (ByteArray × Int)} (h : cs.map Co.val = l) : (!cs.isEmpty && cs.all fun x => sgn x.z == 1) = posB l := by
  rw [← h]; unfold posB; rw [List.all_map, List.isEmpty_map]; congr 2; funext x; rw [sgn_pos]; rfl
theorem neg_val {cs : List Co} {l : List (ByteArray × Int)} (h : cs.map Co.val = l) : (cs.any fun x => sgn x.z == -1) = negB l := by
  rw [← h]; unfold negB; rw [List.any_map]; congr 1; funext x; rw [sgn_neg]; rfl

theorem errOne_ne {p : Option ByteArray} {x : ByteArray × Int} {t : ByteArray} (h : errOne p x = some t) : (t.toList == (⟨#[]⟩ : ByteArray).toList) = false := by
  have key : ∀ u : ByteArray, u ≠ ⟨#[]⟩ → (u.toList == (⟨#[]⟩ : ByteArray).toList) = false := fun u hu => by rw [key_beq]; simpa using hu
  unfold errOne at h
  split at h
  · injection h with h; subst h; exact key _ (by decide)
  · split at h
    · split at h
      · injection h with h; subst h; exact key _ (by decide)
      · split at h
        · injection h with h; subst h; exact key _ (by decide)
        · split at h
          · injection h with h; subst h; exact key _ (by decide)
          · cases h
    · split at h
      · injection h with h; subst h; exact key _ (by decide)
      · cases h
theorem err_ne {l : List (ByteArray × Int)} {t : ByteArray} (h : ErrIs l (some t)) : (t.toList == (⟨#[]⟩ : ByteArray).toList) = false := by
  obtain ⟨j, hj, _⟩ := h
  unfold errAt at hj
  split at hj
  · cases hj
  · exact errOne_ne hj
theorem err_ne2 {l : List (ByteArray × Int)} {t : ByteArray} (h : ErrIs l (some t)) : ¬ t.toList = [] ∧ t.toList.isEmpty = false := by
  have h1 : ¬ t.toList = [] := by
    intro e
    have := err_ne h
    rw [e, Lib.toList_data] at this
    simp at this
  exact ⟨h1, by cases h2 : t.toList with | nil => exact absurd h2 h1 | cons a r => rfl⟩
/-- What a list tells of itself. -/
def RetFacts (l : List (ByteArray × Int)) (w : World) (e : Ending) (w' : World) : Prop :=
  ∃ o, ErrIs l o ∧ e = .returned (.agg #[.bool o.isNone, .bool (zeroB l), .bool (decide (l.length = 0)), .bool (posB l), .bool (negB l)]) ∧ Ext w w'

set_option maxRecDepth 100000 in
set_option maxHeartbeats 2000000 in
theorem iAbout (A : Option Addr) (n c : Nat) (l : List (ByteArray × Int)) (w : World) (hl : l.length = n) (hn : n ≤ 1000) (h : PlainAt w A l) (hz : ∀ x ∈ l, -maxI ≤ x.2 ∧ x.2 ≤ maxI) (hsz : ∀ x ∈ l, x.1.size ≤ maxLen) :
    Calls Tryz.prog 49 #[.slice A n c] w (RetFacts l w) := by
  have H1 := Lib.hid (iCoins A n c l _ hl (by omega) (h.ext (Ext.alloc' w (.cells #[.bool false, .bool false, .bool false, .bool false, .bool false] 56))) hz)
  have K0 := Lib.hid (blk_new0 w 56 [.bool false, .bool false, .bool false, .bool false, .bool false])
  have HL := Lib.hid hl; have HSZ := Lib.hid hsz
  clear hl h hz hsz
  go_enter Tryz.func49, Tryz.ntmps49
  go_wp2_with (fail)
  go_at_call 72
  refine H1.out.mono ?_
  rintro e w1 ⟨v, cs, rfl, hcv, hown, hE⟩
  obtain ⟨A1, c1, rfl, hc1, hc2⟩ := own_cap2 hown.1
  have HO := Lib.hid (own_at hown).1; have HV := Lib.hid hcv; have HE := Lib.hid hE; have HN := Lib.hid (show cs.length = n by rw [← HL.out, ← hcv]; simp); have HC := Lib.hid (And.intro hc1 hc2)
  clear hown hcv hE hc1 hc2
  have HSC := Lib.hid (show ∀ x ∈ cs, x.s.size ≤ 9223372036854775807 from fun x hx => by
    have := HSZ.out x.val (by rw [← HV.out]; exact List.mem_map_of_mem hx)
    unfold maxLen at this; exact Nat.le_trans this (by decide))
  go_wp2_with (fail)
  go_at_call 97
  refine (tIsValidC A1 cs.length c1 cs _ rfl (by have := HN.out; omega) HC.out.1 HC.out.2 HO.out HSC.out).mono ?_
  rintro e w2 ⟨o, ho, rfl, hE⟩
  rw [HV.out] at ho
  have HOO := Lib.hid ho; have HE2 := Lib.hid hE; clear ho hE
  obtain ⟨b1, hb1⟩ : ∃ b, b = o.isNone := ⟨_, rfl⟩
  rw [← hb1]; have HB1 := Lib.hid hb1; clear hb1
  go_wp2_with (fail)
  go_at_call 98
  refine (tIsZeroC A1 cs.length c1 cs _ rfl (by have := HN.out; omega) (HO.out.ext HE2.out)).mono ?_
  rintro e w3 ⟨rfl, hE⟩
  have HE3 := Lib.hid hE; clear hE
  obtain ⟨b2, hb2⟩ : ∃ b, b = (cs.all fun x => sgn x.z == 0) := ⟨_, rfl⟩
  rw [← hb2]; have HB2 := Lib.hid (hb2.trans (zero_val HV.out)); clear hb2
  go_wp2_with (fail)
  go_at_call 99
  refine (tEmptyC A1 cs.length c1 _).mono ?_
  rintro e w4 ⟨rfl, hE⟩
  have HE4 := Lib.hid hE; clear hE
  obtain ⟨b3, hb3⟩ : ∃ b, b = decide (cs.length = 0) := ⟨_, rfl⟩
  rw [← hb3]; have HB3 := Lib.hid (show b3 = decide (l.length = 0) by rw [hb3, HN.out, HL.out]); clear hb3
  go_wp2_with (fail)
  go_at_call 100
  refine (tAllPos A1 cs.length c1 cs _ rfl (by have := HN.out; omega) (HO.out.ext ((HE2.out.trans' HE3.out).trans' HE4.out))).mono ?_
  rintro e w5 ⟨rfl, hE⟩
  have HE5 := Lib.hid hE; clear hE
  obtain ⟨b4, hb4⟩ : ∃ b, b = (!cs.isEmpty && cs.all fun x => sgn x.z == 1) := ⟨_, rfl⟩
  rw [← hb4]; have HB4 := Lib.hid (hb4.trans (pos_val HV.out)); clear hb4
  go_wp2_with (fail)
  go_at_call 101
  refine (tAnyNeg A1 cs.length c1 cs _ rfl (by have := HN.out; omega) (HO.out.ext (((HE2.out.trans' HE3.out).trans' HE4.out).trans' HE5.out))).mono ?_
  rintro e w6 ⟨rfl, hE⟩
  have HEE := Lib.hid (((((HE.out.trans' HE2.out).trans' HE3.out).trans' HE4.out).trans' HE5.out).trans' hE); clear hE
  obtain ⟨b5, hb5⟩ : ∃ b, b = (cs.any fun x => sgn x.z == -1) := ⟨_, rfl⟩
  rw [← hb5]; have HB5 := Lib.hid (hb5.trans (neg_val HV.out)); clear hb5
  have kk := Lib.hid (K0.out.ext HEE.out)
  have d0 : w6.cell? ⟨w.heap.size, 0, none⟩ = some (.bool false) := (kk.out.cell 0).trans rfl
  have d1 : w6.cell? ⟨w.heap.size, 1, none⟩ = some (.bool false) := (kk.out.cell 1).trans rfl
  have d2 : w6.cell? ⟨w.heap.size, 2, none⟩ = some (.bool false) := (kk.out.cell 2).trans rfl
  have d3 : w6.cell? ⟨w.heap.size, 3, none⟩ = some (.bool false) := (kk.out.cell 3).trans rfl
  have d4 : w6.cell? ⟨w.heap.size, 4, none⟩ = some (.bool false) := (kk.out.cell 4).trans rfl
  have f0 := kk.out.frozen 0
  have f1 := kk.out.frozen 1
  have f2 := kk.out.frozen 2
  have f3 := kk.out.frozen 3
  have f4 := kk.out.frozen 4
  go_wp2
  exact bodyPost_ret (v := .agg #[.bool b1, .bool b2, .bool b3, .bool b4, .bool b5]) (by simp [results, Tryz.results49, go_sem, d0, d1, d2, d3, d4]) rfl ⟨o, HOO.out, by rw [HB1.out, HB2.out, HB3.out, HB4.out, HB5.out], Only.ext ((Ext.alloc' _ _).trans' HEE.out) ((((((Only.refl _ _).set_ 0 _).set_ 1 _).set_ 2 _).set_ 3 _).set_ 4 _) (Nat.le_refl _)⟩

set_option maxRecDepth 100000 in
set_option maxHeartbeats 1000000 in
theorem sSumNegative (A : Option Addr) (n c : Nat) (l : List (ByteArray × Int)) (w : World) (hl : l.length = n) (hn : n ≤ 1000000) (h : PlainAt w A l) :
    Calls Tryz.prog 50 #[.slice A n c] w (RetE (.bool (negB l)) w) := by
  have HL := Lib.hid hl; have HP := Lib.hid h
  clear hl h
  go_enter Tryz.func50, Tryz.ntmps50
  go_wp2
  go_loopw [7] (fun i wr => ∃ k : Nat, k ≤ n ∧ i = .int .i64 k ∧ (∀ x ∈ l.take k, ¬ x.2 < 0) ∧ Ext w wr) (fun i _ => n - (intOf i).toNat)
  case atStart => exact ⟨0, Nat.zero_le _, rfl, (fun x hx => by simp at hx), Ext.refl _⟩
  case round =>
    obtain ⟨k, hk, rfl, hq, hE⟩ := hrel
    have HQ := Lib.hid hq; have HE := Lib.hid hE
    clear hq hE
    by_cases hlt : k < n
    · have hkl : k < l.length := by rw [HL.out]; exact hlt
      obtain ⟨s, hs⟩ : ∃ s, s = l[k].1 := ⟨_, rfl⟩
      obtain ⟨z, hzz⟩ : ∃ z, z = l[k].2 := ⟨_, rfl⟩
      obtain ⟨g, o, hA, hc⟩ := HP.out (by intro e; have := congrArg List.length e; simp at this; rw [this] at hkl; simp at hkl)
      subst hA
      have hck := hc k (by simpa using hkl)
      have cs0 : wr.cell? ⟨g, o + k * 2, none⟩ = some (.string s) := HE.out.cell' (by rw [hck.1, hs]; simp [plain])
      have cs1 : wr.cell? ⟨g, o + k * 2 + 1, none⟩ = some (.int .i64 z) := HE.out.cell' (by rw [hck.2, hzz]; simp [plain])
      have HZ := Lib.hid hzz; have HM := Lib.hid (List.getElem_mem hkl)
      clear hs hzz hck hc
      by_cases h0 : z < 0
      · have F := Lib.hid (show negB l = true by unfold negB; rw [List.any_eq_true]; exact ⟨l[k], HM.out, by rw [← HZ.out]; simpa using h0⟩)
        have d1 : decide (z < 0) = true := by simpa using h0
        go_wp2
        go_ret
        rw [F.out]; exact ⟨rfl, HE.out.trans' (Ext.alloc' _ _)⟩
      · have d1 : decide (z < 0) = false := by simpa using h0
        have HN0 := Lib.hid h0; clear h0
        go_wp2
        go_roundw
        case rel =>
          refine ⟨k + 1, by omega, by go_num, fun x hx => ?_, HE.out.trans' (Ext.alloc' _ _)⟩
          rw [List.take_succ_eq_append_getElem hkl, List.mem_append, List.mem_singleton] at hx
          rcases hx with hx | rfl
          · exact HQ.out x hx
          · rw [← HZ.out]; exact HN0.out
        case measure => simp [intOf]; omega
    · obtain rfl : k = n := by omega
      have F := Lib.hid (show negB l = false by
        have := HQ.out
        rw [List.take_of_length_le (by rw [HL.out]; exact Nat.le_refl _)] at this
        unfold negB; rw [List.any_eq_false]; intro x hx; simpa using this x hx)
      go_wp2
      go_ret
      rw [F.out]; exact ⟨rfl, HE.out⟩
end Go.Proofs.YtagfbefgcijegaaGreatDoor
