/-
  The contract of Coins.Find (a binary search that calls itself).
-/
import Derived.Test.YtagfbefgcijegaaGreatDoorList2
import Derived.Test.YtagfbefgcijegaaGreatDoorIns
namespace Go.Proofs.YtagfbefgcijegaaGreatDoor
open Go Go.RowKit

theorem recAt_take {w : World} {A : Option Addr} {ps : List (Value × Value)} (h : RecAt w A ps) (m : Nat) : RecAt w A (ps.take m) := by
  intro hn
  obtain ⟨g, o, ha, hc⟩ := h (by intro e; rw [e] at hn; simp at hn)
  refine ⟨g, o, ha, fun j hj => ?_⟩
  rw [List.length_take] at hj
  have := hc j (by omega)
  rw [List.getElem_take]; exact this
theorem recAt_drop {w : World} {g o : Nat} {ps : List (Value × Value)} (h : RecAt w (some ⟨g, o, none⟩) ps) (m : Nat) : RecAt w (some ⟨g, o + m * 2, none⟩) (ps.drop m) := by
  intro hn
  have hl : m < ps.length := by
    rcases Nat.lt_or_ge m ps.length with h | h
    · exact h
    · rw [List.drop_of_length_le h] at hn; exact absurd rfl hn
  obtain ⟨g', o', ha, hc⟩ := h (by intro e; rw [e] at hl; simp at hl)
  injection ha with ha; injection ha with h1 h2
  subst h1; subst h2
  refine ⟨g, o + m * 2, rfl, fun j hj => ?_⟩
  simp at hj
  have := hc (m + j) (by omega)
  rw [List.getElem_drop]
  rw [show o + m * 2 + j * 2 = o + (m + j) * 2 by omega]; exact this
theorem coinsAt_take {w : World} {A : Option Addr} {l : List Co} (h : CoinsAt w A l) (m : Nat) : CoinsAt w A (l.take m) :=
  ⟨by rw [List.map_take]; exact recAt_take h.1 m, fun c hc => h.2 c (List.mem_of_mem_take hc)⟩
theorem coinsAt_drop {w : World} {g o : Nat} {l : List Co} (h : CoinsAt w (some ⟨g, o, none⟩) l) (m : Nat) : CoinsAt w (some ⟨g, o + m * 2, none⟩) (l.drop m) :=
  ⟨by rw [List.map_drop]; exact recAt_drop h.1 m, fun c hc => h.2 c (List.mem_of_mem_drop hc)⟩

theorem w64 {x : Int} (h0 : 0 ≤ x) (h1 : x ≤ 1000001) : wrap64 x = x := by unfold wrap64; omega
/-- The coin of a name, or none. -/
def RetFind (l : List Co) (d : ByteArray) (w : World) (e : Ending) (w' : World) : Prop :=
  ((e = .returned (.tuple #[.bool false, .agg #[.string ByteArray.empty, .pointer none]]) ∧ ∀ x ∈ l, x.s ≠ d) ∨ ∃ x ∈ l, x.s = d ∧ e = .returned (.tuple #[.bool true, coinV d x.b])) ∧ Ext w w'
theorem lt_ne {a b : ByteArray} (h : keyLt a b = true) : a ≠ b := by rintro rfl; rw [keyLt_irrefl] at h; cases h
theorem find_low {l : List Co} {d : ByteArray} {m : Nat} (hm : m < l.length) (hs : l.Pairwise fun a b => le (Co.s a) (Co.s b)) (h : keyLt d l[m].s = true) (hn : ∀ x ∈ l.take m, x.s ≠ d) : ∀ x ∈ l, x.s ≠ d := by
  intro x hx
  obtain ⟨j, hj, rfl⟩ := List.getElem_of_mem hx
  rcases Nat.lt_trichotomy j m with e | e | e
  · exact hn _ (List.mem_take_iff_getElem.2 ⟨j, by omega, by simp⟩)
  · subst e; exact (lt_ne h).symm
  · exact (lt_ne (key_lt_of_lt_of_le h (List.pairwise_iff_getElem.1 hs m j hm hj e))).symm
theorem find_high {l : List Co} {d : ByteArray} {m : Nat} (hm : m < l.length) (hs : l.Pairwise fun a b => le (Co.s a) (Co.s b)) (h : keyLt l[m].s d = true) (hn : ∀ x ∈ l.drop (m + 1), x.s ≠ d) : ∀ x ∈ l, x.s ≠ d := by
  intro x hx
  obtain ⟨j, hj, rfl⟩ := List.getElem_of_mem hx
  rcases Nat.lt_or_ge m j with e | e
  · exact hn _ (List.mem_drop_iff_getElem.2 ⟨j - (m + 1), by omega, by congr 1; omega⟩)
  · intro e2
    have hle : le l[j].s l[m].s := by
      rcases Nat.lt_or_ge j m with f | f
      · exact List.pairwise_iff_getElem.1 hs j m hj hm f
      · obtain rfl : j = m := by omega
        exact le_refl _
    rw [e2] at hle
    unfold le at hle; rw [h] at hle; cases hle

set_option maxRecDepth 100000 in
set_option maxHeartbeats 2000000 in
theorem tFind (d : ByteArray) (n : Nat) : ∀ (A : Option Addr) (c : Nat) (l : List Co) (w : World), l.length = n → n ≤ 1000000 → n ≤ c → c ≤ 9223372036854775807 → CoinsAt w A l → (l.Pairwise fun a b => le (Co.s a) (Co.s b)) →
    Calls Tryz.prog 78 #[.slice A n c, .string d] w (RetFind l d w) := by
  induction n using Nat.strongRecOn with
  | ind n ih =>
  intro A c l w hl hn hc hc2 h hs
  have IH := Lib.hid ih; have HP := Lib.hid h; have HS := Lib.hid hs; have HL := Lib.hid hl
  clear ih h hs
  rcases n with _ | _ | n
  · obtain rfl : l = [] := List.length_eq_zero_iff.1 hl
    go_enter Tryz.func78, Tryz.ntmps78
    go_wp2
    exact bodyPost_ret (v := .tuple #[.bool false, .agg #[.string ⟨#[]⟩, .pointer none]]) (by simp [results, Tryz.results78, go_sem]) rfl ⟨Or.inl ⟨rfl, fun x hx => by simp at hx⟩, Ext.alloc' _ _⟩
  · have hkl : 0 < l.length := by omega
    obtain ⟨s, hss⟩ : ∃ s, s = l[0].s := ⟨_, rfl⟩
    obtain ⟨b, hb⟩ : ∃ b, b = l[0].b := ⟨_, rfl⟩
    obtain ⟨g, o, hA, hcc⟩ := HP.out.1 (by intro e; have := congrArg List.length e; simp at this; rw [this] at hkl; simp at hkl)
    subst hA
    have hck := hcc 0 (by simpa using hkl)
    have cs0 : w.cell? ⟨g, o, none⟩ = some (.string s) := by have := hck.1; simp at this; rw [this, hss]; simp [Co.pair]
    have cs1 : w.cell? ⟨g, o + 1, none⟩ = some (.pointer (some ⟨b, 0, none⟩)) := by have := hck.2; simp at this; rw [this, hb]; simp [Co.pair]
    have gl := cell_lt cs0
    have HSS := Lib.hid hss; have HB := Lib.hid hb
    clear hss hb hck hcc
    by_cases hsd : s = d
    · subst hsd
      go_enter Tryz.func78, Tryz.ntmps78
      go_wp2
      go_region
      go_wp2
      exact bodyPost_ret (v := .tuple #[.bool true, coinV s b]) (by simp [results, Tryz.results78, go_sem]) rfl ⟨Or.inr ⟨l[0], List.getElem_mem hkl, HSS.out.symm, by rw [HB.out]⟩, by
        exact ((Ext.alloc' _ _).trans' (Ext.alloc' _ _)).trans' (Ext.drewN' _ 1)⟩
    · have hne : (s.toList == d.toList) = false := by rw [key_beq]; simpa using hsd
      have HNE := Lib.hid hsd
      clear hsd
      go_enter Tryz.func78, Tryz.ntmps78
      go_wp2
      exact bodyPost_ret (v := .tuple #[.bool false, .agg #[.string ⟨#[]⟩, .pointer none]]) (by simp [results, Tryz.results78, go_sem]) rfl ⟨Or.inl ⟨rfl, fun x hx => by
        obtain ⟨j, hj, rfl⟩ := List.getElem_of_mem hx
        obtain rfl : j = 0 := by omega
        rw [← HSS.out]; exact HNE.out⟩, (Ext.alloc' _ _).trans' (Ext.alloc' _ _)⟩
  · generalize hN : n + 1 + 1 = N at *
    obtain ⟨m, hm⟩ : ∃ m, m = N / 2 := ⟨_, rfl⟩
    have h0 : ((N : Int) == 0) = false := by simp; omega
    have h1 : ((N : Int) == 1) = false := by simp; omega
    have hmN : m < N := by omega
    have hkl : m < l.length := by omega
    obtain ⟨s, hss⟩ : ∃ s, s = l[m].s := ⟨_, rfl⟩
    obtain ⟨b, hb⟩ : ∃ b, b = l[m].b := ⟨_, rfl⟩
    obtain ⟨g, o, hA, hcc⟩ := HP.out.1 (by intro e; have := congrArg List.length e; simp at this; rw [this] at hkl; simp at hkl)
    subst hA
    have hck := hcc m (by simpa using hkl)
    have cs0 : w.cell? ⟨g, o + m * 2, none⟩ = some (.string s) := by rw [hck.1, hss]; simp [Co.pair]
    have cs1 : w.cell? ⟨g, o + m * 2 + 1, none⟩ = some (.pointer (some ⟨b, 0, none⟩)) := by rw [hck.2, hb]; simp [Co.pair]
    have gl := cell_lt cs0
    have HSS := Lib.hid hss; have HB := Lib.hid hb; have HMM := Lib.hid hm; have HNN := Lib.hid hN
    have b0 : (0 : Int) ≤ (m : Int) := by omega
    have b1 : (m : Int) < (N : Int) := by omega
    have b2 : (m : Int) ≤ (c : Int) := by omega
    have b3 : (m : Int) + 1 ≤ (N : Int) := by omega
    have b4 : (N : Int) ≤ (c : Int) := by omega
    have b5 : (0 : Int) ≤ (m : Int) + 1 := by omega
    have K0 := Lib.hid ((blk_new0 w 81 [.string ⟨#[]⟩, .pointer none]).alloc (coinBox s b))
    have IHL := Lib.hid (fun (W : World) (e : Ext w W) => IH.out m hmN (some ⟨g, o, none⟩) c (l.take m) W (by rw [List.length_take, HL.out]; omega) (by omega) (by omega) hc2 ((coinsAt_take HP.out m).ext e) (List.Pairwise.sublist (List.take_sublist _ _) HS.out))
    have IHH := Lib.hid (fun (A : Option Addr) (c' : Nat) (h1 : N - (m + 1) ≤ c') (h2 : c' ≤ 9223372036854775807) (W : World) (h : CoinsAt W A (l.drop (m + 1))) => IH.out (N - (m + 1)) (by omega) A c' (l.drop (m + 1)) W (by rw [List.length_drop, HL.out]) (by omega) h1 h2 h (List.Pairwise.sublist (List.drop_sublist _ _) HS.out))
    have IHZ := Lib.hid (fun (hcm : c = m + 1) (W : World) (e : Ext w W) => IH.out 0 (by omega) (some ⟨g, o, none⟩) 0 (l.drop (m + 1)) W (by rw [List.length_drop, HL.out]; omega) (Nat.zero_le _) (Nat.le_refl _) (by decide) (by rw [List.drop_of_length_le (by have := HL.out; omega)]; exact ⟨RecAt.nil _ _, fun _ h => by simp at h⟩) (List.Pairwise.sublist (List.drop_sublist _ _) HS.out))
    have hz0 : N - (m + 1) ≤ c - (m + 1) := by omega
    have hz1 : c - (m + 1) ≤ 9223372036854775807 := by omega
    have hz2 : c = m + 1 → N - (m + 1) ≤ 0 := by omega
    have HZ := Lib.hid (And.intro hz0 (And.intro hz1 hz2))
    have HDR := Lib.hid (coinsAt_drop HP.out (m + 1))
    have hq : (N : Int).tdiv 2 = (m : Int) := by rw [hm]; simp
    have hm6 : (m : Int) ≤ 1000001 := by omega
    have hm7 : (m : Int) + 1 ≤ 1000001 := by omega
    have hw65 : wrap64 ((m : Int) + 1) = (m : Int) + 1 := w64 b5 hm7
    have hw64 : wrap64 (m : Int) = (m : Int) := w64 b0 hm6
    clear hss hb hck hcc hm hN hl hz0 hz1 hz2 IH
    cases hlt : keyLt d s
    · have hb : Op.bytesLess d.toList s.toList = false := hlt
      by_cases hsd : d = s
      · subst hsd
        clear hlt
        go_enter Tryz.func78, Tryz.ntmps78
        go_wp2
        go_region
        go_wp2
        exact bodyPost_ret (v := .tuple #[.bool true, coinV d b]) (by simp [results, Tryz.results78, go_sem]) rfl ⟨Or.inr ⟨l[m], List.getElem_mem hkl, HSS.out.symm, by rw [HB.out]⟩, by
          exact ((Ext.alloc' _ _).trans' (Ext.alloc' _ _)).trans' (Ext.drewN' _ 1)⟩
      · have hne : (d.toList == s.toList) = false := by rw [key_beq]; simpa using hsd
        have HNE := Lib.hid (show keyLt s d = true by cases k : keyLt s d; exact absurd (keyLt_tri hlt k) hsd; rfl)
        clear hlt hsd
        by_cases hcm : c = m + 1
        · subst hcm
          have IH0 := Lib.hid (IHZ.out rfl)
          clear IHH HZ HDR IHL IHZ
          go_enter Tryz.func78, Tryz.ntmps78
          go_wp2_with (fail)
          go_at_call 78
          refine (IH0.out _ (ext2 _ _ _)).mono ?_
          rintro e w1 ⟨hr, hE⟩
          have kk := K0.out.ext hE
          have d0 : w1.cell? ⟨w.heap.size, 0, none⟩ = some (.string ⟨#[]⟩) := (kk.cell 0).trans rfl
          have d1 : w1.cell? ⟨w.heap.size, 1, none⟩ = some (.pointer none) := (kk.cell 1).trans rfl
          have f0 := kk.frozen 0
          have f1 := kk.frozen 1
          have HE := Lib.hid hE
          clear hE kk
          rcases hr with ⟨rfl, hno⟩ | ⟨x, hx, hxs, rfl⟩
          · have HNO := Lib.hid (find_high hkl HS.out (by rw [← HSS.out]; exact HNE.out) hno); clear hno
            go_wp2
            exact bodyPost_ret (v := .tuple #[.bool false, .agg #[.string ⟨#[]⟩, .pointer none]]) (by simp [results, Tryz.results78, go_sem, d0, d1] <;> rfl) rfl ⟨Or.inl ⟨rfl, HNO.out⟩, Only.ext ((ext2 _ _ _).trans' HE.out) (((Only.refl _ _).set_ 0 _).set_ 1 _) (Nat.le_refl _)⟩
          · have HX := Lib.hid (And.intro (List.mem_of_mem_drop hx) hxs); clear hx hxs
            go_wp2
            exact bodyPost_ret (v := .tuple #[.bool true, coinV d x.b]) (by simp [results, Tryz.results78, go_sem, d0, d1] <;> rfl) rfl ⟨Or.inr ⟨x, HX.out.1, HX.out.2, rfl⟩, Only.ext ((ext2 _ _ _).trans' HE.out) (((Only.refl _ _).set_ 0 _).set_ 1 _) (Nat.le_refl _)⟩
        · have IH0 := Lib.hid (fun (W : World) (e : Ext w W) => IHH.out (some ⟨g, o + (m + 1) * 2, none⟩) (c - (m + 1)) HZ.out.1 HZ.out.2.1 W (HDR.out.ext e))
          clear IHH HZ HDR IHL IHZ
          go_enter Tryz.func78, Tryz.ntmps78
          go_wp2_with (fail)
          go_at_call 78
          refine (IH0.out _ (ext2 _ _ _)).mono ?_
          rintro e w1 ⟨hr, hE⟩
          have kk := K0.out.ext hE
          have d0 : w1.cell? ⟨w.heap.size, 0, none⟩ = some (.string ⟨#[]⟩) := (kk.cell 0).trans rfl
          have d1 : w1.cell? ⟨w.heap.size, 1, none⟩ = some (.pointer none) := (kk.cell 1).trans rfl
          have f0 := kk.frozen 0
          have f1 := kk.frozen 1
          have HE := Lib.hid hE
          clear hE kk
          rcases hr with ⟨rfl, hno⟩ | ⟨x, hx, hxs, rfl⟩
          · have HNO := Lib.hid (find_high hkl HS.out (by rw [← HSS.out]; exact HNE.out) hno); clear hno
            go_wp2
            exact bodyPost_ret (v := .tuple #[.bool false, .agg #[.string ⟨#[]⟩, .pointer none]]) (by simp [results, Tryz.results78, go_sem, d0, d1] <;> rfl) rfl ⟨Or.inl ⟨rfl, HNO.out⟩, Only.ext ((ext2 _ _ _).trans' HE.out) (((Only.refl _ _).set_ 0 _).set_ 1 _) (Nat.le_refl _)⟩
          · have HX := Lib.hid (And.intro (List.mem_of_mem_drop hx) hxs); clear hx hxs
            go_wp2
            exact bodyPost_ret (v := .tuple #[.bool true, coinV d x.b]) (by simp [results, Tryz.results78, go_sem, d0, d1] <;> rfl) rfl ⟨Or.inr ⟨x, HX.out.1, HX.out.2, rfl⟩, Only.ext ((ext2 _ _ _).trans' HE.out) (((Only.refl _ _).set_ 0 _).set_ 1 _) (Nat.le_refl _)⟩
    · have hb : Op.bytesLess d.toList s.toList = true := hlt
      have HLT := Lib.hid hlt; clear hlt
      go_enter Tryz.func78, Tryz.ntmps78
      go_wp2_with (fail)
      go_at_call 78
      refine (IHL.out _ (ext2 _ _ _)).mono ?_
      rintro e w1 ⟨hr, hE⟩
      have kk := K0.out.ext hE
      have d0 : w1.cell? ⟨w.heap.size, 0, none⟩ = some (.string ⟨#[]⟩) := (kk.cell 0).trans rfl
      have d1 : w1.cell? ⟨w.heap.size, 1, none⟩ = some (.pointer none) := (kk.cell 1).trans rfl
      have f0 := kk.frozen 0
      have f1 := kk.frozen 1
      have HE := Lib.hid hE
      clear hE kk
      rcases hr with ⟨rfl, hno⟩ | ⟨x, hx, hxs, rfl⟩
      · have HNO := Lib.hid (find_low hkl HS.out (by rw [← HSS.out]; exact HLT.out) hno); clear hno
        go_wp2
        exact bodyPost_ret (v := .tuple #[.bool false, .agg #[.string ⟨#[]⟩, .pointer none]]) (by simp [results, Tryz.results78, go_sem, d0, d1] <;> rfl) rfl ⟨Or.inl ⟨rfl, HNO.out⟩, Only.ext ((ext2 _ _ _).trans' HE.out) (((Only.refl _ _).set_ 0 _).set_ 1 _) (Nat.le_refl _)⟩
      · have HX := Lib.hid (And.intro (List.mem_of_mem_take hx) hxs); clear hx hxs
        go_wp2
        exact bodyPost_ret (v := .tuple #[.bool true, coinV d x.b]) (by simp [results, Tryz.results78, go_sem, d0, d1] <;> rfl) rfl ⟨Or.inr ⟨x, HX.out.1, HX.out.2, rfl⟩, Only.ext ((ext2 _ _ _).trans' HE.out) (((Only.refl _ _).set_ 0 _).set_ 1 _) (Nat.le_refl _)⟩
end Go.Proofs.YtagfbefgcijegaaGreatDoor
