/-
  The contract of Coins.Find (a binary search that calls itself).
  The contract of Coins.Validate: the first thing that is wrong with coins as a set.
  The contracts of Coins.IsZero, IsAllPositive, IsAnyNegative, Empty, IsValid.
  The contract of impl.SortOf, up to 12 coins.
  The contracts of Coins.Equal and impl.EqualOf.
  The contract of the reference's SumSorted, and of IsSumOnce.
  Plain laws of the reference's SumTotal: the sums by denominations of coins in order.
-/
import Derived.Test.YtagfbefgcijegaaGreatDoorGC
import Derived.Test.YtagfbefgcijegaaGreatDoorGD
import Derived.Test.YtagfbefgcijegaaGreatDoorGB
import Derived.Test.YtagfbefgcijegaaGreatDoorGE
import Derived.Deep.RegionLawGrows
import Derived.Deep.RegionHeld3
namespace Go.Proofs.YtagfbefgcijegaaGreatDoor
open Go Go.RowKit

theorem recAt_take {w : World} {A : Option Addr} {ps : List (Value × Value)} (h : RecAt w A ps) (m : Nat) : RecAt w A (ps.take m) := by
  intro hn
  obtain ⟨g, o, ha, hc⟩ := h (by intro e; rw [e] at hn; simp at hn)
  refine ⟨g, o, ha, fun j hj => ?_⟩
  rw [List.length_take] at hj
  have := hc j (by omega)
  rw [List.getElem_take]; exact this
theorem recAt_drop {w : World} {g o : Nat} {ps : List (Value × Value)} (h : RecAt w (some ⟨g, o, none⟩) ps) (m : Nat) : RecAt w (some ⟨g, o + m * 2, none⟩) (ps.drop m) := by
  intro hn
  have hl : m < ps.length := by
    rcases Nat.lt_or_ge m ps.length with h | h
    · exact h
    · rw [List.drop_of_length_le h] at hn; exact absurd rfl hn
  obtain ⟨g', o', ha, hc⟩ := h (by intro e; rw [e] at hl; simp at hl)
  injection ha with ha; injection ha with h1 h2
  subst h1; subst h2
  refine ⟨g, o + m * 2, rfl, fun j hj => ?_⟩
  simp at hj
  have := hc (m + j) (by omega)
  rw [List.getElem_drop]
  rw [show o + m * 2 + j * 2 = o + (m + j) * 2 by omega]; exact this
theorem coinsAt_take {w : World} {A : Option Addr} {l : List Co} (h : CoinsAt w A l) (m : Nat) : CoinsAt w A (l.take m) :=
  ⟨by rw [List.map_take]; exact recAt_take h.1 m, fun c hc => h.2 c (List.mem_of_mem_take hc)⟩
theorem coinsAt_drop {w : World} {g o : Nat} {l : List Co} (h : CoinsAt w (some ⟨g, o, none⟩) l) (m : Nat) : CoinsAt w (some ⟨g, o + m * 2, none⟩) (l.drop m) :=
  ⟨by rw [List.map_drop]; exact recAt_drop h.1 m, fun c hc => h.2 c (List.mem_of_mem_drop hc)⟩

theorem w64 {x : Int} (h0 : 0 ≤ x) (h1 : x ≤ 1000001) : wrap64 x = x := by unfold wrap64; omega
/-- The coin of a name, or none. -/
def RetFind (l : List Co) (d : ByteArray) (w : World) (e : Ending) (w' : World) : Prop :=
  ((e = .returned (.tuple #[.bool false, .agg #[.string ByteArray.empty, .pointer none]]) ∧ ∀ x ∈ l, x.s ≠ d) ∨ ∃ x ∈ l, x.s = d ∧ e = .returned (.tuple #[.bool true, coinV d x.b])) ∧ Ext w w'
theorem lt_ne {a b : ByteArray} (h : keyLt a b = true) : a ≠ b := by rintro rfl; rw [keyLt_irrefl] at h; cases h
theorem find_low {l : List Co} {d : ByteArray} {m : Nat} (hm : m < l.length) (hs : l.Pairwise fun a b => le (Co.s a) (Co.s b)) (h : keyLt d l[m].s = true) (hn : ∀ x ∈ l.take m, x.s ≠ d) : ∀ x ∈ l, x.s ≠ d := by
  intro x hx
  obtain ⟨j, hj, rfl⟩ := List.getElem_of_mem hx
  rcases Nat.lt_trichotomy j m with e | e | e
  · exact hn _ (List.mem_take_iff_getElem.2 ⟨j, by omega, by simp⟩)
  · subst e; exact (lt_ne h).symm
  · exact (lt_ne (key_lt_of_lt_of_le h (List.pairwise_iff_getElem.1 hs m j hm hj e))).symm
theorem find_high {l : List Co} {d : ByteArray} {m : Nat} (hm : m < l.length) (hs : l.Pairwise fun a b => le (Co.s a) (Co.s b)) (h : keyLt l[m].s d = true) (hn : ∀ x ∈ l.drop (m + 1), x.s ≠ d) : ∀ x ∈ l, x.s ≠ d := by
  intro x hx
  obtain ⟨j, hj, rfl⟩ := List.getElem_of_mem hx
  rcases Nat.lt_or_ge m j with e | e
  · exact hn _ (List.mem_drop_iff_getElem.2 ⟨j - (m + 1), by omega, by congr 1; omega⟩)
  · intro e2
    have hle : le l[j].s l[m].s := by
      rcases Nat.lt_or_ge j m with f | f
      · exact List.pairwise_iff_getElem.1 hs j m hj hm f
      · obtain rfl : j = m := by omega
        exact le_refl _
    rw [e2] at hle
    unfold le at hle; rw [h] at hle; cases hle

set_option maxRecDepth 100000 in
set_option maxHeartbeats 2000000 in
theorem tFind (d : ByteArray) (n : Nat) : ∀ (A : Option Addr) (c : Nat) (l : List Co) (w : World), l.length = n → n ≤ 1000000 → n ≤ c → c ≤ 9223372036854775807 → CoinsAt w A l → (l.Pairwise fun a b => le (Co.s a) (Co.s b)) →
    Calls Tryz.prog 78 #[.slice A n c, .string d] w (RetFind l d w) := by
  induction n using Nat.strongRecOn with
  | ind n ih =>
  intro A c l w hl hn hc hc2 h hs
  have IH := Lib.hid ih; have HP := Lib.hid h; have HS := Lib.hid hs; have HL := Lib.hid hl
  clear ih h hs
  rcases n with _ | _ | n
  · obtain rfl : l = [] := List.length_eq_zero_iff.1 hl
    go_enter Tryz.func78, Tryz.ntmps78
    go_wp2
    exact bodyPost_ret (v := .tuple #[.bool false, .agg #[.string ⟨#[]⟩, .pointer none]]) (by simp [results, Tryz.results78, go_sem]) rfl ⟨Or.inl ⟨rfl, fun x hx => by simp at hx⟩, Ext.alloc' _ _⟩
  · have hkl : 0 < l.length := by omega
    obtain ⟨s, hss⟩ : ∃ s, s = l[0].s := ⟨_, rfl⟩
    obtain ⟨b, hb⟩ : ∃ b, b = l[0].b := ⟨_, rfl⟩
    obtain ⟨g, o, hA, hcc⟩ := HP.out.1 (by intro e; have := congrArg List.length e; simp at this; rw [this] at hkl; simp at hkl)
    subst hA
    have hck := hcc 0 (by simpa using hkl)
    have cs0 : w.cell? ⟨g, o, none⟩ = some (.string s) := by have := hck.1; simp at this; rw [this, hss]; simp [Co.pair]
    have cs1 : w.cell? ⟨g, o + 1, none⟩ = some (.pointer (some ⟨b, 0, none⟩)) := by have := hck.2; simp at this; rw [this, hb]; simp [Co.pair]
    have gl := cell_lt cs0
    have HSS := Lib.hid hss; have HB := Lib.hid hb
    clear hss hb hck hcc
    by_cases hsd : s = d
    · subst hsd
      go_enter Tryz.func78, Tryz.ntmps78
      go_wp2
      go_region
      go_wp2
      exact bodyPost_ret (v := .tuple #[.bool true, coinV s b]) (by simp [results, Tryz.results78, go_sem]) rfl ⟨Or.inr ⟨l[0], List.getElem_mem hkl, HSS.out.symm, by rw [HB.out]⟩, by
        exact ((Ext.alloc' _ _).trans' (Ext.alloc' _ _)).trans' (Ext.drewN' _ 1)⟩
    · have hne : (s.toList == d.toList) = false := by rw [key_beq]; simpa using hsd
      have HNE := Lib.hid hsd
      clear hsd
      go_enter Tryz.func78, Tryz.ntmps78
      go_wp2
      exact bodyPost_ret (v := .tuple #[.bool false, .agg #[.string ⟨#[]⟩, .pointer none]]) (by simp [results, Tryz.results78, go_sem]) rfl ⟨Or.inl ⟨rfl, fun x hx => by
        obtain ⟨j, hj, rfl⟩ := List.getElem_of_mem hx
        obtain rfl : j = 0 := by omega
        rw [← HSS.out]; exact HNE.out⟩, (Ext.alloc' _ _).trans' (Ext.alloc' _ _)⟩
  · generalize hN : n + 1 + 1 = N at *
    obtain ⟨m, hm⟩ : ∃ m, m = N / 2 := ⟨_, rfl⟩
    have h0 : ((N : Int) == 0) = false := by simp; omega
    have h1 : ((N : Int) == 1) = false := by simp; omega
    have hmN : m < N := by omega
    have hkl : m < l.length := by omega
    obtain ⟨s, hss⟩ : ∃ s, s = l[m].s := ⟨_, rfl⟩
    obtain ⟨b, hb⟩ : ∃ b, b = l[m].b := ⟨_, rfl⟩
    obtain ⟨g, o, hA, hcc⟩ := HP.out.1 (by intro e; have := congrArg List.length e; simp at this; rw [this] at hkl; simp at hkl)
    subst hA
    have hck := hcc m (by simpa using hkl)
    have cs0 : w.cell? ⟨g, o + m * 2, none⟩ = some (.string s) := by rw [hck.1, hss]; simp [Co.pair]
    have cs1 : w.cell? ⟨g, o + m * 2 + 1, none⟩ = some (.pointer (some ⟨b, 0, none⟩)) := by rw [hck.2, hb]; simp [Co.pair]
    have gl := cell_lt cs0
    have HSS := Lib.hid hss; have HB := Lib.hid hb; have HMM := Lib.hid hm; have HNN := Lib.hid hN
    have b0 : (0 : Int) ≤ (m : Int) := by omega
    have b1 : (m : Int) < (N : Int) := by omega
    have b2 : (m : Int) ≤ (c : Int) := by omega
    have b3 : (m : Int) + 1 ≤ (N : Int) := by omega
    have b4 : (N : Int) ≤ (c : Int) := by omega
    have b5 : (0 : Int) ≤ (m : Int) + 1 := by omega
    have K0 := Lib.hid ((blk_new0 w 81 [.string ⟨#[]⟩, .pointer none]).alloc (coinBox s b))
    have IHL := Lib.hid (fun (W : World) (e : Ext w W) => IH.out m hmN (some ⟨g, o, none⟩) c (l.take m) W (by rw [List.length_take, HL.out]; omega) (by omega) (by omega) hc2 ((coinsAt_take HP.out m).ext e) (List.Pairwise.sublist (List.take_sublist _ _) HS.out))
    have IHH := Lib.hid (fun (A : Option Addr) (c' : Nat) (h1 : N - (m + 1) ≤ c') (h2 : c' ≤ 9223372036854775807) (W : World) (h : CoinsAt W A (l.drop (m + 1))) => IH.out (N - (m + 1)) (by omega) A c' (l.drop (m + 1)) W (by rw [List.length_drop, HL.out]) (by omega) h1 h2 h (List.Pairwise.sublist (List.drop_sublist _ _) HS.out))
    have IHZ := Lib.hid (fun (hcm : c = m + 1) (W : World) (e : Ext w W) => IH.out 0 (by omega) (some ⟨g, o, none⟩) 0 (l.drop (m + 1)) W (by rw [List.length_drop, HL.out]; omega) (Nat.zero_le _) (Nat.le_refl _) (by decide) (by rw [List.drop_of_length_le (by have := HL.out; omega)]; exact ⟨RecAt.nil _ _, fun _ h => by simp at h⟩) (List.Pairwise.sublist (List.drop_sublist _ _) HS.out))
    have hz0 : N - (m + 1) ≤ c - (m + 1) := by omega
    have hz1 : c - (m + 1) ≤ 9223372036854775807 := by omega
    have hz2 : c = m + 1 → N - (m + 1) ≤ 0 := by omega
    have HZ := Lib.hid (And.intro hz0 (And.intro hz1 hz2))
    have HDR := Lib.hid (coinsAt_drop HP.out (m + 1))
    have hq : (N : Int).tdiv 2 = (m : Int) := by rw [hm]; simp
    have hm6 : (m : Int) ≤ 1000001 := by omega
    have hm7 : (m : Int) + 1 ≤ 1000001 := by omega
    have hw65 : wrap64 ((m : Int) + 1) = (m : Int) + 1 := w64 b5 hm7
    have hw64 : wrap64 (m : Int) = (m : Int) := w64 b0 hm6
    clear hss hb hck hcc hm hN hl hz0 hz1 hz2 IH
    cases hlt : keyLt d s
    · have hb : Op.bytesLess d.toList s.toList = false := hlt
      by_cases hsd : d = s
      · subst hsd
        clear hlt
        go_enter Tryz.func78, Tryz.ntmps78
        go_wp2
        go_region
        go_wp2
        exact bodyPost_ret (v := .tuple #[.bool true, coinV d b]) (by simp [results, Tryz.results78, go_sem]) rfl ⟨Or.inr ⟨l[m], List.getElem_mem hkl, HSS.out.symm, by rw [HB.out]⟩, by
          exact ((Ext.alloc' _ _).trans' (Ext.alloc' _ _)).trans' (Ext.drewN' _ 1)⟩
      · have hne : (d.toList == s.toList) = false := by rw [key_beq]; simpa using hsd
        have HNE := Lib.hid (show keyLt s d = true by cases k : keyLt s d; exact absurd (keyLt_tri hlt k) hsd; rfl)
        clear hlt hsd
        by_cases hcm : c = m + 1
        · subst hcm
          have IH0 := Lib.hid (IHZ.out rfl)
          clear IHH HZ HDR IHL IHZ
          go_enter Tryz.func78, Tryz.ntmps78
          go_wp2_with (fail)
          go_at_call 78
          refine (IH0.out _ (ext2 _ _ _)).mono ?_
          rintro e w1 ⟨hr, hE⟩
          have kk := K0.out.ext hE
          have d0 : w1.cell? ⟨w.heap.size, 0, none⟩ = some (.string ⟨#[]⟩) := (kk.cell 0).trans rfl
          have d1 : w1.cell? ⟨w.heap.size, 1, none⟩ = some (.pointer none) := (kk.cell 1).trans rfl
          have f0 := kk.frozen 0
          have f1 := kk.frozen 1
          have HE := Lib.hid hE
          clear hE kk
          rcases hr with ⟨rfl, hno⟩ | ⟨x, hx, hxs, rfl⟩
          · have HNO := Lib.hid (find_high hkl HS.out (by rw [← HSS.out]; exact HNE.out) hno); clear hno
            go_wp2
            exact bodyPost_ret (v := .tuple #[.bool false, .agg #[.string ⟨#[]⟩, .pointer none]]) (by simp [results, Tryz.results78, go_sem, d0, d1] <;> rfl) rfl ⟨Or.inl ⟨rfl, HNO.out⟩, Only.ext ((ext2 _ _ _).trans' HE.out) (((Only.refl _ _).set_ 0 _).set_ 1 _) (Nat.le_refl _)⟩
          · have HX := Lib.hid (And.intro (List.mem_of_mem_drop hx) hxs); clear hx hxs
            go_wp2
            exact bodyPost_ret (v := .tuple #[.bool true, coinV d x.b]) (by simp [results, Tryz.results78, go_sem, d0, d1] <;> rfl) rfl ⟨Or.inr ⟨x, HX.out.1, HX.out.2, rfl⟩, Only.ext ((ext2 _ _ _).trans' HE.out) (((Only.refl _ _).set_ 0 _).set_ 1 _) (Nat.le_refl _)⟩
        · have IH0 := Lib.hid (fun (W : World) (e : Ext w W) => IHH.out (some ⟨g, o + (m + 1) * 2, none⟩) (c - (m + 1)) HZ.out.1 HZ.out.2.1 W (HDR.out.ext e))
          clear IHH HZ HDR IHL IHZ
          go_enter Tryz.func78, Tryz.ntmps78
          go_wp2_with (fail)
          go_at_call 78
          refine (IH0.out _ (ext2 _ _ _)).mono ?_
          rintro e w1 ⟨hr, hE⟩
          have kk := K0.out.ext hE
          have d0 : w1.cell? ⟨w.heap.size, 0, none⟩ = some (.string ⟨#[]⟩) := (kk.cell 0).trans rfl
          have d1 : w1.cell? ⟨w.heap.size, 1, none⟩ = some (.pointer none) := (kk.cell 1).trans rfl
          have f0 := kk.frozen 0
          have f1 := kk.frozen 1
          have HE := Lib.hid hE
          clear hE kk
          rcases hr with ⟨rfl, hno⟩ | ⟨x, hx, hxs, rfl⟩
          · have HNO := Lib.hid (find_high hkl HS.out (by rw [← HSS.out]; exact HNE.out) hno); clear hno
            go_wp2
            exact bodyPost_ret (v := .tuple #[.bool false, .agg #[.string ⟨#[]⟩, .pointer none]]) (by simp [results, Tryz.results78, go_sem, d0, d1] <;> rfl) rfl ⟨Or.inl ⟨rfl, HNO.out⟩, Only.ext ((ext2 _ _ _).trans' HE.out) (((Only.refl _ _).set_ 0 _).set_ 1 _) (Nat.le_refl _)⟩
          · have HX := Lib.hid (And.intro (List.mem_of_mem_drop hx) hxs); clear hx hxs
            go_wp2
            exact bodyPost_ret (v := .tuple #[.bool true, coinV d x.b]) (by simp [results, Tryz.results78, go_sem, d0, d1] <;> rfl) rfl ⟨Or.inr ⟨x, HX.out.1, HX.out.2, rfl⟩, Only.ext ((ext2 _ _ _).trans' HE.out) (((Only.refl _ _).set_ 0 _).set_ 1 _) (Nat.le_refl _)⟩
    · have hb : Op.bytesLess d.toList s.toList = true := hlt
      have HLT := Lib.hid hlt; clear hlt
      go_enter Tryz.func78, Tryz.ntmps78
      go_wp2_with (fail)
      go_at_call 78
      refine (IHL.out _ (ext2 _ _ _)).mono ?_
      rintro e w1 ⟨hr, hE⟩
      have kk := K0.out.ext hE
      have d0 : w1.cell? ⟨w.heap.size, 0, none⟩ = some (.string ⟨#[]⟩) := (kk.cell 0).trans rfl
      have d1 : w1.cell? ⟨w.heap.size, 1, none⟩ = some (.pointer none) := (kk.cell 1).trans rfl
      have f0 := kk.frozen 0
      have f1 := kk.frozen 1
      have HE := Lib.hid hE
      clear hE kk
      rcases hr with ⟨rfl, hno⟩ | ⟨x, hx, hxs, rfl⟩
      · have HNO := Lib.hid (find_low hkl HS.out (by rw [← HSS.out]; exact HLT.out) hno); clear hno
        go_wp2
        exact bodyPost_ret (v := .tuple #[.bool false, .agg #[.string ⟨#[]⟩, .pointer none]]) (by simp [results, Tryz.results78, go_sem, d0, d1] <;> rfl) rfl ⟨Or.inl ⟨rfl, HNO.out⟩, Only.ext ((ext2 _ _ _).trans' HE.out) (((Only.refl _ _).set_ 0 _).set_ 1 _) (Nat.le_refl _)⟩
      · have HX := Lib.hid (And.intro (List.mem_of_mem_take hx) hxs); clear hx hxs
        go_wp2
        exact bodyPost_ret (v := .tuple #[.bool true, coinV d x.b]) (by simp [results, Tryz.results78, go_sem, d0, d1] <;> rfl) rfl ⟨Or.inr ⟨x, HX.out.1, HX.out.2, rfl⟩, Only.ext ((ext2 _ _ _).trans' HE.out) (((Only.refl _ _).set_ 0 _).set_ 1 _) (Nat.le_refl _)⟩
end Go.Proofs.YtagfbefgcijegaaGreatDoor

namespace Go.Proofs.YtagfbefgcijegaaGreatDoor
open Go Go.RowKit

/-- "denomination is not sorted", "duplicate denomination", "coin amount is not positive". -/
abbrev notSorted : ByteArray := ⟨#[100, 101, 110, 111, 109, 105, 110, 97, 116, 105, 111, 110, 32, 105, 115, 32, 110, 111, 116, 32, 115, 111, 114, 116, 101, 100]⟩
abbrev duplDenom : ByteArray := ⟨#[100, 117, 112, 108, 105, 99, 97, 116, 101, 32, 100, 101, 110, 111, 109, 105, 110, 97, 116, 105, 111, 110]⟩
abbrev notPos : ByteArray := ⟨#[99, 111, 105, 110, 32, 97, 109, 111, 117, 110, 116, 32, 105, 115, 32, 110, 111, 116, 32, 112, 111, 115, 105, 116, 105, 118, 101]⟩
/-- What is wrong with a coin behind one of the name p. -/
def errOne (p : Option ByteArray) (x : ByteArray × Int) : Option ByteArray :=
  if denomB x.1 = false then some invDenom else
  match p with
  | some q => if keyLt x.1 q = true then some notSorted else if x.1 = q then some duplDenom else if x.2 ≤ 0 then some notPos else none
  | none => if x.2 ≤ 0 then some notPos else none
def errAt (l : List (ByteArray × Int)) (j : Nat) : Option ByteArray :=
  match l[j]? with
  | none => none
  | some x => errOne (if j = 0 then none else (l[j - 1]?).map Prod.fst) x
/-- The first thing that is wrong with a list; none: nothing. -/
def ErrIs (l : List (ByteArray × Int)) (o : Option ByteArray) : Prop :=
  match o with
  | none => ∀ j, errAt l j = none
  | some t => ∃ j, errAt l j = some t ∧ ∀ i, i < j → errAt l i = none
theorem errIs_unique {l : List (ByteArray × Int)} {o o' : Option ByteArray} (h : ErrIs l o) (h' : ErrIs l o') : o = o' := by
  cases o with
  | none =>
    cases o' with
    | none => rfl
    | some t =>
      obtain ⟨j, hj, _⟩ := h'
      have := h j; rw [hj] at this; cases this
  | some t =>
    obtain ⟨j, hj, hi⟩ := h
    cases o' with
    | none => have := h' j; rw [hj] at this; cases this
    | some t' =>
      obtain ⟨j', hj', hi'⟩ := h'
      rcases Nat.lt_trichotomy j j' with e | e | e
      · have := hi' j e; rw [hj] at this; cases this
      · subst e; rw [hj] at hj'; exact hj'
      · have := hi j' e; rw [hj'] at this; cases this
theorem errAt_zero {l : List (ByteArray × Int)} (h : 0 < l.length) : errAt l 0 = errOne none l[0] := by unfold errAt; rw [List.getElem?_eq_getElem h]; rfl
theorem errAt_succ {l : List (ByteArray × Int)} {k : Nat} (h : k + 1 < l.length) : errAt l (k + 1) = errOne (some l[k].1) l[k + 1] := by
  unfold errAt; rw [List.getElem?_eq_getElem h, if_neg (by omega), Nat.add_sub_cancel, List.getElem?_eq_getElem (by omega)]; rfl
theorem errAt_out {l : List (ByteArray × Int)} {j : Nat} (h : l.length ≤ j) : errAt l j = none := by unfold errAt; rw [List.getElem?_eq_none h]
theorem errIs_none {l : List (ByteArray × Int)} {k : Nat} (h : ∀ j, j ≤ k → errAt l j = none) (hk : l.length ≤ k + 1) : ErrIs l none := fun j => by
  rcases Nat.lt_or_ge k j with e | e
  · exact errAt_out (by omega)
  · exact h j e
theorem errIs_some {l : List (ByteArray × Int)} {k : Nat} {t : ByteArray} (h : ∀ j, j ≤ k → errAt l j = none) (e : errAt l (k + 1) = some t) : ErrIs l (some t) := ⟨k + 1, e, fun i hi => h i (by omega)⟩
theorem sgn_pos (z : Int) : (sgn z == 1) = decide (0 < z) := by
  unfold sgn
  by_cases h1 : z < 0
  · rw [if_pos h1]; have : ¬ 0 < z := by omega
    simp [this]
  · rw [if_neg h1]
    by_cases h2 : 0 < z
    · rw [if_pos h2]; simp [h2]
    · rw [if_neg h2]; simp [h2]

/-- No error, or this one. -/
def RetErrO (o : Option ByteArray) (w : World) (e : Ending) (w' : World) : Prop :=
  match o with
  | none => e = .returned .nilIface ∧ Ext w w'
  | some t => RetErr t w e w'
def RetErrOf (l : List (ByteArray × Int)) (w : World) (e : Ending) (w' : World) : Prop := ∃ o, ErrIs l o ∧ RetErrO o w e w'
theorem tValidBad {s : ByteArray} (hs : s.size ≤ 9223372036854775807) (h : denomB s = false) (w : World) : Calls Tryz.prog 125 #[.string s] w (RetErr invDenom w) :=
  (tValid s w hs).mono (by rw [h]; rintro e w' (⟨h, _⟩ | ⟨_, h⟩); cases h; exact h)
theorem tValidGood {s : ByteArray} (hs : s.size ≤ 9223372036854775807) (h : denomB s = true) (w : World) : Calls Tryz.prog 125 #[.string s] w (fun e w' => e = .returned .nilIface ∧ w' = w) :=
  (tValid s w hs).mono (by rw [h]; rintro e w' (⟨_, h⟩ | ⟨h, _⟩); exact h; cases h)

set_option maxRecDepth 100000 in
set_option maxHeartbeats 1000000 in
theorem tValidateOne (A : Option Addr) (c : Nat) (x : Co) (w : World) (h : CoinsAt w A [x]) (hsz : x.s.size ≤ 9223372036854775807) :
    Calls Tryz.prog 103 #[.slice A 1 c] w (RetErrO (errOne none x.val) w) := by
  obtain ⟨s, b, z⟩ := x
  obtain ⟨g, o, hA, hc⟩ := h.1 (by simp)
  subst hA
  have hck := hc 0 (by simp)
  have cs0 : w.cell? ⟨g, o, none⟩ = some (.string s) := by have := hck.1; simpa [Co.pair] using this
  have cs1 : w.cell? ⟨g, o + 1, none⟩ = some (.pointer (some ⟨b, 0, none⟩)) := by have := hck.2; simpa [Co.pair] using this
  have HB := Lib.hid (show BigAt w b z from h.2 _ (List.mem_singleton.2 rfl))
  have HP := Lib.hid (fun (W : World) (e : Ext w W) => tIsPositive s b z W (HB.out.ext e))
  rw [sgn_pos] at HP
  show Calls _ _ _ _ (RetErrO (errOne none (s, z)) w)
  clear h hc hck
  cases hd : denomB s
  · have HV := Lib.hid (tValidBad hsz hd)
    have F := Lib.hid (show errOne none (s, z) = some invDenom by unfold errOne; rw [if_pos hd])
    clear hd
    go_enter Tryz.func103, Tryz.ntmps103
    go_wp2_with (first | (go_at_call 125; refine (HV.out _).mono ?_; rintro e w1 ⟨eb, rfl, hB, hE⟩; have HEB := Lib.hid hB; have HE1 := Lib.hid hE; clear hB hE))
    go_ret
    rw [F.out]; exact ⟨eb, rfl, HEB.out, HE1.out⟩
  · have HV := Lib.hid (tValidGood hsz hd)
    have HD := Lib.hid hd; clear hd
    obtain ⟨r, hr⟩ : ∃ r, r = decide (0 < z) := ⟨_, rfl⟩
    rw [← hr] at HP
    have HR := Lib.hid hr; clear hr
    cases r
    · have F := Lib.hid (show errOne none (s, z) = some notPos by unfold errOne; rw [if_neg (by rw [HD.out]; simp)]; exact if_pos (by have := of_decide_eq_false HR.out.symm; omega))
      go_enter Tryz.func103, Tryz.ntmps103
      go_wp2_with (first | (go_at_call 125; refine (HV.out _).mono ?_; rintro e w1 ⟨rfl, hw⟩; subst hw) | (go_at_call 143; refine (HP.out _ (Ext.refl _)).mono ?_; rintro e w2 ⟨rfl, hE⟩; have HE2 := Lib.hid hE; clear hE) | (go_at_call 136; refine (eNew notPos _).mono ?_; rintro e w3 ⟨eb, rfl, hB, hE⟩; have HEB := Lib.hid hB; have HE3 := Lib.hid hE; clear hB hE))
      go_ret
      rw [F.out]; exact ⟨eb, rfl, HEB.out, HE2.out.trans' HE3.out⟩
    · have F := Lib.hid (show errOne none (s, z) = none by unfold errOne; rw [if_neg (by rw [HD.out]; simp)]; exact if_neg (by have := of_decide_eq_true HR.out.symm; omega))
      go_enter Tryz.func103, Tryz.ntmps103
      go_wp2_with (first | (go_at_call 125; refine (HV.out _).mono ?_; rintro e w1 ⟨rfl, hw⟩; subst hw) | (go_at_call 143; refine (HP.out _ (Ext.refl _)).mono ?_; rintro e w2 ⟨rfl, hE⟩; have HE2 := Lib.hid hE; clear hE))
      go_ret
      rw [F.out]; exact ⟨rfl, HE2.out⟩

set_option maxRecDepth 100000 in
theorem tValidateNone (A : Option Addr) (c : Nat) (w : World) : Calls Tryz.prog 103 #[.slice A 0 c] w fun e w' => e = .returned .nilIface ∧ w' = w := by
  go_enter Tryz.func103, Tryz.ntmps103
  go_wp2
  go_ret
  exact ⟨rfl, rfl⟩

set_option maxRecDepth 100000 in
set_option maxHeartbeats 4000000 in
theorem tValidateMany (A : Option Addr) (n c : Nat) (l : List Co) (w : World) (hl : l.length = n) (h2 : 2 ≤ n) (hn : n ≤ 1000000) (hc : n ≤ c) (hcm : c ≤ 9223372036854775807) (h : CoinsAt w A l) (hsz : ∀ x ∈ l, x.s.size ≤ 9223372036854775807) :
    Calls Tryz.prog 103 #[.slice A n c] w (RetErrOf (l.map Co.val) w) := by
  have HL := Lib.hid hl; have HP0 := Lib.hid h; have HSZ := Lib.hid hsz
  have hlv : (l.map Co.val).length = n := by simp [hl]
  have HLV := Lib.hid hlv
  have h0l : 0 < l.length := by omega
  obtain ⟨g, o, hA, hcc⟩ := h.1 (by intro e; have := congrArg List.length e; simp at this; rw [this] at h0l; simp at h0l)
  subst hA
  obtain ⟨s0, hs0⟩ : ∃ s, s = l[0].s := ⟨_, rfl⟩
  obtain ⟨a0, ha0⟩ : ∃ b, b = l[0].b := ⟨_, rfl⟩
  have HCC := Lib.hid hcc
  have hck := hcc 0 (by simpa using h0l)
  have cs0 : w.cell? ⟨g, o, none⟩ = some (.string s0) := by have := hck.1; rw [hs0]; simpa [Co.pair] using this
  have cs1 : w.cell? ⟨g, o + 1, none⟩ = some (.pointer (some ⟨a0, 0, none⟩)) := by have := hck.2; rw [ha0]; simpa [Co.pair] using this
  have gl := cell_lt cs0
  have HX0 := Lib.hid (show CoinsAt (w.alloc (coinBox s0 a0)) (some ⟨w.heap.size, 0, none⟩) [l[0]] from ⟨fun _ => ⟨w.heap.size, 0, rfl, fun j hj => by
    obtain rfl : j = 0 := by simp at hj; omega
    exact ⟨by rw [cell_new]; simp [Co.pair, hs0], by rw [cell_new]; simp [Co.pair, ha0]⟩⟩, fun y hy => by
    obtain rfl := List.mem_singleton.1 hy
    exact (h.2 _ (List.getElem_mem h0l)).ext (Ext.alloc' _ _)⟩)
  have H1 := Lib.hid (tValidateOne (some ⟨w.heap.size, 0, none⟩) 1 l[0] _ HX0.out (hsz _ (List.getElem_mem h0l)))
  have F0 := Lib.hid (show errAt (l.map Co.val) 0 = errOne none (Co.val l[0]) by rw [errAt_zero (by omega)]; simp)
  have HS0 := Lib.hid (show s0 = Co.s l[0] from hs0)
  obtain ⟨o1, ho1⟩ : ∃ o1, o1 = errOne none (Co.val l[0]) := ⟨_, rfl⟩
  rw [← ho1] at H1 F0
  have hd2 : ((n : Int) == 0) = false := by simp; omega
  have hd3 : ((n : Int) == 1) = false := by simp; omega
  have hc1 : ¬ c = 1 := by omega
  have b0 : (1 : Int) ≤ (n : Int) := by omega
  have b1 : (n : Int) ≤ (c : Int) := by omega
  have b2 : (0 : Int) < (n : Int) := by omega
  have b3 : (1 : Int) ≤ (c : Int) := by omega
  clear h hsz hcc hck hl hs0 ha0 ho1 hlv
  cases o1 with
  | some t =>
    go_enter Tryz.func103, Tryz.ntmps103
    go_wp2_with (fail)
    go_at_call 103
    refine H1.out.mono ?_
    rintro e w1 ⟨eb, rfl, hB, hE⟩
    have HEB := Lib.hid hB; have HE := Lib.hid hE; clear hB hE
    go_wp2
    go_ret
    exact ⟨some t, ⟨0, F0.out, fun i hi => absurd hi (Nat.not_lt_zero _)⟩, eb, rfl, HEB.out, (Ext.alloc' _ _).trans' HE.out⟩
  | none =>
    go_enter Tryz.func103, Tryz.ntmps103
    go_wp2_with (fail)
    go_at_call 103
    refine H1.out.mono ?_
    rintro e w1 ⟨rfl, hE⟩
    have HE1 := Lib.hid ((Ext.alloc' _ _).trans' hE); clear hE
    have cs0' := HE1.out.cell' cs0
    clear cs0 cs1 gl
    go_wp2
    go_loopw [5, 26] (fun v i wr => ∃ k : Nat, k + 1 ≤ n ∧ i = .int .i64 k ∧ (∃ hk : k < l.length, v = .string l[k].s) ∧ (∀ j, j ≤ k → errAt (l.map Co.val) j = none) ∧ Ext w wr) (fun _ i _ => n - (intOf i).toNat)
    case atStart => exact ⟨0, by omega, rfl, ⟨h0l, by rw [HS0.out]⟩, fun j hj => (show 0 = j by omega) ▸ F0.out, HE1.out⟩
    case round =>
      obtain ⟨k, hk, rfl, ⟨hkl, rfl⟩, hq, hE⟩ := hrel
      have HQ := Lib.hid hq; have HE := Lib.hid hE
      clear hq hE
      obtain ⟨low, hlow⟩ : ∃ low, low = l[k].s := ⟨_, rfl⟩
      have HLOW := Lib.hid hlow
      rw [← hlow]
      clear hlow
      by_cases hlt : k + 1 < n
      · have hkl1 : k + 1 < l.length := by rw [HL.out]; exact hlt
        obtain ⟨s, hss⟩ : ∃ s, s = l[k + 1].s := ⟨_, rfl⟩
        obtain ⟨b, hbb⟩ : ∃ b, b = l[k + 1].b := ⟨_, rfl⟩
        obtain ⟨z, hzz⟩ : ∃ z, z = l[k + 1].z := ⟨_, rfl⟩
        have hck := HCC.out (k + 1) (by simpa using hkl1)
        have hoff : o + (k + 1) * 2 = o + 2 + k * 2 := by omega
        rw [hoff] at hck
        have cs0 : wr.cell? ⟨g, o + 2 + k * 2, none⟩ = some (.string s) := HE.out.cell' (by rw [hck.1, hss]; simp [Co.pair])
        have cs1 : wr.cell? ⟨g, o + 2 + k * 2 + 1, none⟩ = some (.pointer (some ⟨b, 0, none⟩)) := HE.out.cell' (by rw [hck.2, hbb]; simp [Co.pair])
        have gl := cell_lt cs0
        have HB := Lib.hid (show BigAt wr b z by rw [hbb, hzz]; exact (HP0.out.2 _ (List.getElem_mem hkl1)).ext HE.out)
        have HP := Lib.hid (fun (W : World) (e : Ext wr W) => tIsPositive s b z W (HB.out.ext e))
        rw [sgn_pos] at HP
        have hz := HSZ.out _ (List.getElem_mem hkl1)
        rw [← hss] at hz
        have FX := Lib.hid (show errAt (l.map Co.val) (k + 1) = errOne (some low) (s, z) by
          rw [errAt_succ (by rw [HLV.out]; exact hlt)]; simp [HLOW.out, hss, hzz, Co.val])
        have m1 : (k : Int) < (n : Int) - 1 := by omega
        have m2 : k < n - 1 := by omega
        have HSS := Lib.hid hss
        clear hss hbb hzz hck hoff
        cases hd : denomB s
        · have HV := Lib.hid (tValidBad hz hd)
          have F := Lib.hid (show errOne (some low) (s, z) = some invDenom by unfold errOne; rw [if_pos hd])
          clear hd hz
          go_wp2_with (first | (go_at_call 125; refine (HV.out _).mono ?_; rintro e w2 ⟨eb, rfl, hB, hE⟩; have HEB := Lib.hid hB; have HE2 := Lib.hid hE; clear hB hE))
          go_ret
          exact ⟨some invDenom, errIs_some HQ.out (FX.out.trans F.out), eb, rfl, HEB.out, (HE.out.trans' (Ext.alloc' _ _)).trans' HE2.out⟩
        · have HV := Lib.hid (tValidGood hz hd)
          have HD := Lib.hid hd; clear hd hz
          cases h1 : keyLt s low
          · by_cases h2 : s = low
            · subst h2
              have g1 : Op.bytesLess s.toList s.toList = false := h1
              have F := Lib.hid (show errOne (some s) (s, z) = some duplDenom by unfold errOne; rw [if_neg (by rw [HD.out]; simp)]; show (if keyLt s s = true then _ else _) = _; rw [if_neg (by rw [h1]; simp), if_pos rfl])
              clear h1
              go_wp2_with (first | (go_at_call 125; refine (HV.out _).mono ?_; rintro e w2 ⟨rfl, hw⟩; subst hw) | (go_at_call 136; refine (eNew duplDenom _).mono ?_; rintro e w4 ⟨eb, rfl, hB, hE⟩; have HEB := Lib.hid hB; have HE4 := Lib.hid hE; clear hB hE))
              go_ret
              exact ⟨some duplDenom, errIs_some HQ.out (FX.out.trans F.out), eb, rfl, HEB.out, (HE.out.trans' (Ext.alloc' _ _)).trans' HE4.out⟩
            · have g1 : Op.bytesLess s.toList low.toList = false := h1
              have g2 : (s.toList == low.toList) = false := by rw [key_beq]; simpa using h2
              obtain ⟨r, hr⟩ : ∃ r, r = decide (0 < z) := ⟨_, rfl⟩
              rw [← hr] at HP
              have HR := Lib.hid hr; clear hr
              cases r
              · have F := Lib.hid (show errOne (some low) (s, z) = some notPos by unfold errOne; rw [if_neg (by rw [HD.out]; simp)]; show (if keyLt s low = true then _ else _) = _; rw [if_neg (by rw [h1]; simp), if_neg h2, if_pos (by have := of_decide_eq_false HR.out.symm; simp at this ⊢; omega)])
                clear h1 h2
                go_wp2_with (first | (go_at_call 125; refine (HV.out _).mono ?_; rintro e w2 ⟨rfl, hw⟩; subst hw) | (go_at_call 143; refine (HP.out _ (Ext.alloc' _ _)).mono ?_; rintro e w3 ⟨rfl, hE⟩; have HE3 := Lib.hid hE; clear hE) | (go_at_call 136; refine (eNew notPos _).mono ?_; rintro e w4 ⟨eb, rfl, hB, hE⟩; have HEB := Lib.hid hB; have HE4 := Lib.hid hE; clear hB hE))
                go_ret
                exact ⟨some notPos, errIs_some HQ.out (FX.out.trans F.out), eb, rfl, HEB.out, ((HE.out.trans' (Ext.alloc' _ _)).trans' HE3.out).trans' HE4.out⟩
              · have F := Lib.hid (show errOne (some low) (s, z) = none by unfold errOne; rw [if_neg (by rw [HD.out]; simp)]; show (if keyLt s low = true then _ else _) = _; rw [if_neg (by rw [h1]; simp), if_neg h2, if_neg (by have := of_decide_eq_true HR.out.symm; simp at this ⊢; omega)])
                clear h1 h2
                go_wp2_with (first | (go_at_call 125; refine (HV.out _).mono ?_; rintro e w2 ⟨rfl, hw⟩; subst hw) | (go_at_call 143; refine (HP.out _ (Ext.alloc' _ _)).mono ?_; rintro e w3 ⟨rfl, hE⟩; have k0 := ((blk_new0 wr 81 [.string s, .pointer (some ⟨b, 0, none⟩)]).ext hE); have c0 : w3.cell? ⟨wr.heap.size, 0, none⟩ = some (.string s) := (k0.cell 0).trans rfl; have HE3 := Lib.hid hE; clear hE k0))
                go_roundw
                case rel =>
                  refine ⟨k + 1, by omega, by go_num, ⟨hkl1, by rw [HSS.out]⟩, fun j hj => ?_, (HE.out.trans' (Ext.alloc' _ _)).trans' HE3.out⟩
                  by_cases e : j = k + 1
                  · subst e; exact FX.out.trans F.out
                  · exact HQ.out j (by omega)
                case measure => simp [intOf]; omega
          · have g1 : Op.bytesLess s.toList low.toList = true := h1
            have F := Lib.hid (show errOne (some low) (s, z) = some notSorted by unfold errOne; rw [if_neg (by rw [HD.out]; simp)]; show (if keyLt s low = true then _ else _) = _; rw [if_pos h1])
            clear h1
            go_wp2_with (first | (go_at_call 125; refine (HV.out _).mono ?_; rintro e w2 ⟨rfl, hw⟩; subst hw) | (go_at_call 136; refine (eNew notSorted _).mono ?_; rintro e w4 ⟨eb, rfl, hB, hE⟩; have HEB := Lib.hid hB; have HE4 := Lib.hid hE; clear hB hE))
            go_ret
            exact ⟨some notSorted, errIs_some HQ.out (FX.out.trans F.out), eb, rfl, HEB.out, (HE.out.trans' (Ext.alloc' _ _)).trans' HE4.out⟩
      · have m2 : ¬ k < n - 1 := by omega
        have m1 : ¬ (k : Int) < (n : Int) - 1 := by omega
        have FN := Lib.hid (errIs_none HQ.out (by rw [HLV.out]; omega))
        go_wp2
        go_ret
        exact ⟨none, FN.out, rfl, HE.out⟩
end Go.Proofs.YtagfbefgcijegaaGreatDoor

namespace Go.Proofs.YtagfbefgcijegaaGreatDoor
open Go Go.RowKit

set_option maxRecDepth 100000 in
set_option maxHeartbeats 1000000 in
theorem tIsZeroC (A : Option Addr) (n c : Nat) (l : List Co) (w : World) (hl : l.length = n) (hn : n ≤ 1000000) (h : CoinsAt w A l) :
    Calls Tryz.prog 98 #[.slice A n c] w (RetE (.bool (l.all fun x => sgn x.z == 0)) w) := by
  have HL := Lib.hid hl; have HP := Lib.hid h
  clear hl h
  go_enter Tryz.func98, Tryz.ntmps98
  go_wp2
  go_loopw [7] (fun i wr => ∃ k : Nat, k ≤ n ∧ i = .int .i64 k ∧ (∀ x ∈ l.take k, (sgn x.z == 0) = true) ∧ Ext w wr) (fun i _ => n - (intOf i).toNat)
  case atStart => exact ⟨0, Nat.zero_le _, rfl, (fun x hx => by simp at hx), Ext.refl _⟩
  case round =>
    obtain ⟨k, hk, rfl, hq, hE⟩ := hrel
    have HQ := Lib.hid hq; have HE := Lib.hid hE
    clear hq hE
    by_cases hlt : k < n
    · have hkl : k < l.length := by rw [HL.out]; exact hlt
      obtain ⟨s, hs⟩ : ∃ s, s = l[k].s := ⟨_, rfl⟩
      obtain ⟨b, hb⟩ : ∃ b, b = l[k].b := ⟨_, rfl⟩
      obtain ⟨z, hzz⟩ : ∃ z, z = l[k].z := ⟨_, rfl⟩
      obtain ⟨g, o, hA, hc⟩ := HP.out.1 (by intro e; have := congrArg List.length e; simp at this; rw [this] at hkl; simp at hkl)
      subst hA
      have hck := hc k (by simpa using hkl)
      have cs0 : wr.cell? ⟨g, o + k * 2, none⟩ = some (.string s) := HE.out.cell' (by rw [hck.1, hs]; simp [Co.pair])
      have cs1 : wr.cell? ⟨g, o + k * 2 + 1, none⟩ = some (.pointer (some ⟨b, 0, none⟩)) := HE.out.cell' (by rw [hck.2, hb]; simp [Co.pair])
      have HB := Lib.hid (show BigAt wr b z by rw [hb, hzz]; exact (HP.out.2 _ (List.getElem_mem hkl)).ext HE.out)
      have HZ := Lib.hid hzz; have HM := Lib.hid (List.getElem_mem hkl)
      clear hs hb hzz hck hc
      obtain ⟨r, hr⟩ : ∃ r, r = (sgn z == 0) := ⟨_, rfl⟩
      have HT := Lib.hid (tIsZero s b z _ (HB.out.ext (Ext.alloc' wr (coinBox s b))))
      rw [← hr] at HT
      have HR := Lib.hid hr; clear hr
      cases r
      · have F := Lib.hid (show (l.all fun x => sgn x.z == 0) = false by
          rw [List.all_eq_false]; exact ⟨l[k], HM.out, by rw [← HZ.out, ← HR.out]; simp⟩)
        go_wp2_with (first | (go_at_call 142; (with_reducible refine HT.out.mono ?_); rintro e w1 ⟨rfl, hE⟩; have HE1 := Lib.hid hE; clear hE))
        go_ret
        rw [F.out]; exact ⟨rfl, (HE.out.trans' (Ext.alloc' _ _)).trans' HE1.out⟩
      · go_wp2_with (first | (go_at_call 142; (with_reducible refine HT.out.mono ?_); rintro e w1 ⟨rfl, hE⟩; have HE1 := Lib.hid hE; clear hE))
        go_roundw
        case rel =>
          refine ⟨k + 1, by omega, by go_num, fun x hx => ?_, (HE.out.trans' (Ext.alloc' _ _)).trans' HE1.out⟩
          rw [List.take_succ_eq_append_getElem hkl, List.mem_append, List.mem_singleton] at hx
          rcases hx with hx | rfl
          · exact HQ.out x hx
          · rw [← HZ.out]; exact HR.out.symm
        case measure => simp [intOf]; omega
    · obtain rfl : k = n := by omega
      have F := Lib.hid (show (l.all fun x => sgn x.z == 0) = true by
        have := HQ.out
        rw [List.take_of_length_le (by rw [HL.out]; exact Nat.le_refl _)] at this
        rw [List.all_eq_true]; intro x hx; exact this x hx)
      go_wp2
      go_ret
      rw [F.out]; exact ⟨rfl, HE.out⟩

set_option maxRecDepth 100000 in
set_option maxHeartbeats 1000000 in
theorem tAllPos (A : Option Addr) (n c : Nat) (l : List Co) (w : World) (hl : l.length = n) (hn : n ≤ 1000000) (h : CoinsAt w A l) :
    Calls Tryz.prog 100 #[.slice A n c] w (RetE (.bool ((!l.isEmpty && l.all fun x => sgn x.z == 1))) w) := by
  have HL := Lib.hid hl; have HP := Lib.hid h
  clear hl h
  by_cases h0 : n = 0
  · subst h0
    obtain rfl : l = [] := List.length_eq_zero_iff.1 HL.out
    go_enter Tryz.func100, Tryz.ntmps100
    go_wp2
    go_ret
    exact ⟨rfl, Ext.refl _⟩
  have hd0 : ((n : Int) == 0) = false := by simp; omega
  have HNE := Lib.hid (show (!l.isEmpty) = true by cases l with | nil => exact absurd HL.out.symm h0 | cons a t => rfl)
  clear h0
  go_enter Tryz.func100, Tryz.ntmps100
  go_wp2
  go_loopw [10] (fun i wr => ∃ k : Nat, k ≤ n ∧ i = .int .i64 k ∧ (∀ x ∈ l.take k, (sgn x.z == 1) = true) ∧ Ext w wr) (fun i _ => n - (intOf i).toNat)
  case atStart => exact ⟨0, Nat.zero_le _, rfl, (fun x hx => by simp at hx), Ext.refl _⟩
  case round =>
    obtain ⟨k, hk, rfl, hq, hE⟩ := hrel
    have HQ := Lib.hid hq; have HE := Lib.hid hE
    clear hq hE
    by_cases hlt : k < n
    · have hkl : k < l.length := by rw [HL.out]; exact hlt
      obtain ⟨s, hs⟩ : ∃ s, s = l[k].s := ⟨_, rfl⟩
      obtain ⟨b, hb⟩ : ∃ b, b = l[k].b := ⟨_, rfl⟩
      obtain ⟨z, hzz⟩ : ∃ z, z = l[k].z := ⟨_, rfl⟩
      obtain ⟨g, o, hA, hc⟩ := HP.out.1 (by intro e; have := congrArg List.length e; simp at this; rw [this] at hkl; simp at hkl)
      subst hA
      have hck := hc k (by simpa using hkl)
      have cs0 : wr.cell? ⟨g, o + k * 2, none⟩ = some (.string s) := HE.out.cell' (by rw [hck.1, hs]; simp [Co.pair])
      have cs1 : wr.cell? ⟨g, o + k * 2 + 1, none⟩ = some (.pointer (some ⟨b, 0, none⟩)) := HE.out.cell' (by rw [hck.2, hb]; simp [Co.pair])
      have HB := Lib.hid (show BigAt wr b z by rw [hb, hzz]; exact (HP.out.2 _ (List.getElem_mem hkl)).ext HE.out)
      have HZ := Lib.hid hzz; have HM := Lib.hid (List.getElem_mem hkl)
      clear hs hb hzz hck hc
      obtain ⟨r, hr⟩ : ∃ r, r = (sgn z == 1) := ⟨_, rfl⟩
      have HT := Lib.hid (tIsPositive s b z _ (HB.out.ext (Ext.alloc' wr (coinBox s b))))
      rw [← hr] at HT
      have HR := Lib.hid hr; clear hr
      cases r
      · have F := Lib.hid (show (l.all fun x => sgn x.z == 1) = false by
          rw [List.all_eq_false]; exact ⟨l[k], HM.out, by rw [← HZ.out, ← HR.out]; simp⟩)
        go_wp2_with (first | (go_at_call 143; (with_reducible refine HT.out.mono ?_); rintro e w1 ⟨rfl, hE⟩; have HE1 := Lib.hid hE; clear hE))
        go_ret
        rw [HNE.out, F.out]; exact ⟨rfl, (HE.out.trans' (Ext.alloc' _ _)).trans' HE1.out⟩
      · go_wp2_with (first | (go_at_call 143; (with_reducible refine HT.out.mono ?_); rintro e w1 ⟨rfl, hE⟩; have HE1 := Lib.hid hE; clear hE))
        go_roundw
        case rel =>
          refine ⟨k + 1, by omega, by go_num, fun x hx => ?_, (HE.out.trans' (Ext.alloc' _ _)).trans' HE1.out⟩
          rw [List.take_succ_eq_append_getElem hkl, List.mem_append, List.mem_singleton] at hx
          rcases hx with hx | rfl
          · exact HQ.out x hx
          · rw [← HZ.out]; exact HR.out.symm
        case measure => simp [intOf]; omega
    · obtain rfl : k = n := by omega
      have F := Lib.hid (show (l.all fun x => sgn x.z == 1) = true by
        have := HQ.out
        rw [List.take_of_length_le (by rw [HL.out]; exact Nat.le_refl _)] at this
        rw [List.all_eq_true]; intro x hx; exact this x hx)
      go_wp2
      go_ret
      rw [HNE.out, F.out]; exact ⟨rfl, HE.out⟩

set_option maxRecDepth 100000 in
set_option maxHeartbeats 1000000 in
theorem tAnyNeg (A : Option Addr) (n c : Nat) (l : List Co) (w : World) (hl : l.length = n) (hn : n ≤ 1000000) (h : CoinsAt w A l) :
    Calls Tryz.prog 101 #[.slice A n c] w (RetE (.bool (l.any fun x => sgn x.z == -1)) w) := by
  have HL := Lib.hid hl; have HP := Lib.hid h
  clear hl h
  go_enter Tryz.func101, Tryz.ntmps101
  go_wp2
  go_loopw [7] (fun i wr => ∃ k : Nat, k ≤ n ∧ i = .int .i64 k ∧ (∀ x ∈ l.take k, (sgn x.z == -1) = false) ∧ Ext w wr) (fun i _ => n - (intOf i).toNat)
  case atStart => exact ⟨0, Nat.zero_le _, rfl, (fun x hx => by simp at hx), Ext.refl _⟩
  case round =>
    obtain ⟨k, hk, rfl, hq, hE⟩ := hrel
    have HQ := Lib.hid hq; have HE := Lib.hid hE
    clear hq hE
    by_cases hlt : k < n
    · have hkl : k < l.length := by rw [HL.out]; exact hlt
      obtain ⟨s, hs⟩ : ∃ s, s = l[k].s := ⟨_, rfl⟩
      obtain ⟨b, hb⟩ : ∃ b, b = l[k].b := ⟨_, rfl⟩
      obtain ⟨z, hzz⟩ : ∃ z, z = l[k].z := ⟨_, rfl⟩
      obtain ⟨g, o, hA, hc⟩ := HP.out.1 (by intro e; have := congrArg List.length e; simp at this; rw [this] at hkl; simp at hkl)
      subst hA
      have hck := hc k (by simpa using hkl)
      have cs0 : wr.cell? ⟨g, o + k * 2, none⟩ = some (.string s) := HE.out.cell' (by rw [hck.1, hs]; simp [Co.pair])
      have cs1 : wr.cell? ⟨g, o + k * 2 + 1, none⟩ = some (.pointer (some ⟨b, 0, none⟩)) := HE.out.cell' (by rw [hck.2, hb]; simp [Co.pair])
      have HB := Lib.hid (show BigAt wr b z by rw [hb, hzz]; exact (HP.out.2 _ (List.getElem_mem hkl)).ext HE.out)
      have HZ := Lib.hid hzz; have HM := Lib.hid (List.getElem_mem hkl)
      clear hs hb hzz hck hc
      obtain ⟨r, hr⟩ : ∃ r, r = (sgn z == -1) := ⟨_, rfl⟩
      have HT := Lib.hid (tIsNegative s b z _ (HB.out.ext (Ext.alloc' wr (coinBox s b))))
      rw [← hr] at HT
      have HR := Lib.hid hr; clear hr
      cases r
      · go_wp2_with (first | (go_at_call 138; (with_reducible refine HT.out.mono ?_); rintro e w1 ⟨rfl, hE⟩; have HE1 := Lib.hid hE; clear hE))
        go_roundw
        case rel =>
          refine ⟨k + 1, by omega, by go_num, fun x hx => ?_, (HE.out.trans' (Ext.alloc' _ _)).trans' HE1.out⟩
          rw [List.take_succ_eq_append_getElem hkl, List.mem_append, List.mem_singleton] at hx
          rcases hx with hx | rfl
          · exact HQ.out x hx
          · rw [← HZ.out]; exact HR.out.symm
        case measure => simp [intOf]; omega
      · have F := Lib.hid (show (l.any fun x => sgn x.z == -1) = true by
          rw [List.any_eq_true]; exact ⟨l[k], HM.out, by rw [← HZ.out]; exact HR.out.symm⟩)
        go_wp2_with (first | (go_at_call 138; (with_reducible refine HT.out.mono ?_); rintro e w1 ⟨rfl, hE⟩; have HE1 := Lib.hid hE; clear hE))
        go_ret
        rw [F.out]; exact ⟨rfl, (HE.out.trans' (Ext.alloc' _ _)).trans' HE1.out⟩
    · obtain rfl : k = n := by omega
      have F := Lib.hid (show (l.any fun x => sgn x.z == -1) = false by
        have := HQ.out
        rw [List.take_of_length_le (by rw [HL.out]; exact Nat.le_refl _)] at this
        rw [List.any_eq_false]; intro x hx; rw [this x hx]; simp)
      go_wp2
      go_ret
      rw [F.out]; exact ⟨rfl, HE.out⟩

/-- Validate, for lists of any length. -/
theorem tValidate (A : Option Addr) (n c : Nat) (l : List Co) (w : World) (hl : l.length = n) (hn : n ≤ 1000000) (hc : n ≤ c) (hcm : c ≤ 9223372036854775807) (h : CoinsAt w A l) (hsz : ∀ x ∈ l, x.s.size ≤ 9223372036854775807) :
    Calls Tryz.prog 103 #[.slice A n c] w (RetErrOf (l.map Co.val) w) := by
  rcases n with _ | _ | n
  · obtain rfl : l = [] := List.length_eq_zero_iff.1 hl
    refine (tValidateNone A c w).mono ?_
    rintro e w' ⟨rfl, rfl⟩
    exact ⟨none, fun j => errAt_out (Nat.zero_le _), rfl, Ext.refl _⟩
  · obtain ⟨x, rfl⟩ := List.length_eq_one_iff.1 hl
    refine (tValidateOne A c x w h (hsz x (by simp))).mono ?_
    intro e w' hr
    refine ⟨errOne none x.val, ?_, hr⟩
    have h0 : errAt [x.val] 0 = errOne none x.val := errAt_zero (by simp)
    show ErrIs [x.val] _
    cases ho : errOne none x.val with
    | none => exact errIs_none (k := 0) (fun j hj => (show 0 = j by omega) ▸ (h0.trans ho)) (by simp)
    | some t => exact ⟨0, by rw [h0, ho], fun i hi => absurd hi (Nat.not_lt_zero _)⟩
  · exact tValidateMany A (n + 1 + 1) c l w hl (by omega) hn hc hcm h hsz

set_option maxRecDepth 100000 in
theorem tIsValidC (A : Option Addr) (n c : Nat) (l : List Co) (w : World) (hl : l.length = n) (hn : n ≤ 1000000) (hc : n ≤ c) (hcm : c ≤ 9223372036854775807) (h : CoinsAt w A l) (hsz : ∀ x ∈ l, x.s.size ≤ 9223372036854775807) :
    Calls Tryz.prog 97 #[.slice A n c] w fun e w' => ∃ o, ErrIs (l.map Co.val) o ∧ e = .returned (.bool o.isNone) ∧ Ext w w' := by
  have H := Lib.hid (tValidate A n c l w hl hn hc hcm h hsz)
  clear hl hn hc hcm h hsz
  go_enter Tryz.func97, Tryz.ntmps97
  go_wp2_with (fail)
  go_at_call 103
  refine H.out.mono ?_
  rintro e w1 ⟨o, ho, hr⟩
  have HO := Lib.hid ho; clear ho
  cases o with
  | none =>
    obtain ⟨rfl, hE⟩ := hr
    have HE := Lib.hid hE; clear hE
    go_wp2
    go_ret
    exact ⟨none, HO.out, rfl, HE.out⟩
  | some t =>
    obtain ⟨b, rfl, hB, hE⟩ := hr
    have HE := Lib.hid hE; clear hE hB
    go_wp2
    go_ret
    exact ⟨some t, HO.out, rfl, HE.out⟩

set_option maxRecDepth 100000 in
theorem tEmptyC (A : Option Addr) (n c : Nat) (w : World) : Calls Tryz.prog 99 #[.slice A n c] w (RetE (.bool (decide (n = 0))) w) := by
  by_cases h0 : n = 0
  · subst h0
    go_enter Tryz.func99, Tryz.ntmps99
    go_wp2
    go_ret
    exact ⟨rfl, Ext.refl _⟩
  · have hd0 : ((n : Int) == 0) = false := by simp; omega
    have F := Lib.hid (show decide (n = 0) = false by simpa using h0)
    clear h0
    go_enter Tryz.func99, Tryz.ntmps99
    go_wp2
    go_ret
    rw [F.out]; exact ⟨rfl, Ext.refl _⟩
end Go.Proofs.YtagfbefgcijegaaGreatDoor

namespace Go.Proofs.YtagfbefgcijegaaGreatDoor
open Go Go.RowKit

/-- Plain coins handed back, in order. -/
def RetSorted (E : TypeId) (l : List (ByteArray × Int)) (w : World) (e : Ending) (w' : World) : Prop := ∃ r, RetPlain E r w e w' ∧ r.Perm l ∧ r.Pairwise fun a b => le a.1 b.1

set_option maxRecDepth 100000 in
theorem tSortNil (w : World) : Calls Tryz.prog 126 #[.slice none 0 0] w fun e w' => e = .returned (.slice none 0 0) ∧ w' = w := by
  go_enter Tryz.func126, Tryz.ntmps126
  go_wp2
  go_ret
  exact ⟨rfl, rfl⟩
/-- Coins.Sort of coins of the call's own, in order behind it. -/
def RetOwnSorted (base : Nat) (L0 : List Co) (w : World) (e : Ending) (w' : World) : Prop :=
  ∃ v L, e = .returned v ∧ CoinsOwn w' base v L ∧ L.Perm L0 ∧ (L.Pairwise fun a b => le (Co.s a) (Co.s b)) ∧ ∀ w0 : World, Ext w0 w → w0.heap.size ≤ base → Ext w0 w'
theorem tSortOwn {base : Nat} {v : Value} {L0 : List Co} {w : World} (h : CoinsOwn w base v L0) (hn : L0.length ≤ 12) : Calls Tryz.prog 126 #[v] w (RetOwnSorted base L0 w) := by
  rcases h.1.2 with ⟨hv, hn0⟩ | ⟨g, cap, cur, hv, hbg, hgb, hnc, hcm, hcs, hct⟩
  · subst hv
    obtain rfl : L0 = [] := List.length_eq_zero_iff.1 hn0
    refine (tSortNil w).mono ?_
    rintro e w' ⟨rfl, rfl⟩
    exact ⟨_, [], rfl, CoinsOwn.nil _ _, List.Perm.refl _, List.Pairwise.nil, fun w0 e0 _ => e0⟩
  · subst hv
    have hrow := row_of_own hgb hct
    refine (tSort g L0.length cap L0 _ w hrow rfl (Or.inl hn)).mono ?_
    rintro e w' ⟨rfl, L, hr, ho, hP, hS⟩
    have hl := hP.length_eq
    have h1 : (flat2 (L.map Co.pair)).length = L.length * 2 := by rw [flat2_length]; simp
    refine ⟨_, L, rfl, ⟨⟨by rw [flat2_length]; simp, Or.inr ⟨g, cap, (flat2 (L.map Co.pair) ++ cur.toList.drop (L0.length * 2)).toArray, by rw [hl], hbg, hr, by omega, hcm, ?_, ?_⟩⟩, fun x hx => (h.2 x (hP.mem_iff.1 hx)).only ho hrow⟩, hP, hS, fun w0 e0 hb => Only.ext e0 ho (by omega)⟩
    · simp [h1]; omega
    · rw [show (flat2 (L.map Co.pair) ++ cur.toList.drop (L0.length * 2)).toArray.toList = flat2 (L.map Co.pair) ++ cur.toList.drop (L0.length * 2) from rfl, List.take_append_of_le_length (by omega), List.take_of_length_le (by omega)]

theorem perm_plain {L cs : List Co} {l : List (ByteArray × Int)} (hP : L.Perm cs) (hv : cs.map Co.val = l) : (L.map Co.val).Perm l := hv ▸ hP.map _
end Go.Proofs.YtagfbefgcijegaaGreatDoor

namespace Go.Proofs.YtagfbefgcijegaaGreatDoor
open Go Go.RowKit

/-- Sorted in a row of the call's own; nothing but that row has turned. -/
def RetSortRow (base : Nat) (v : Value) (L0 : List Co) (w : World) (e : Ending) (w' : World) : Prop :=
  ∃ L, e = .returned v ∧ CoinsOwn w' base v L ∧ L.Perm L0 ∧ (L.Pairwise fun a b => le (Co.s a) (Co.s b)) ∧ w.grownBy w' v.ownBlock
theorem tSortRow {base : Nat} {v : Value} {L0 : List Co} {w : World} (h : CoinsOwn w base v L0) (hn : L0.length ≤ 12) : Calls Tryz.prog 126 #[v] w (RetSortRow base v L0 w) := by
  rcases h.1.2 with ⟨hv, hn0⟩ | ⟨g, cap, cur, hv, hbg, hgb, hnc, hcm, hcs, hct⟩
  · subst hv
    obtain rfl : L0 = [] := List.length_eq_zero_iff.1 hn0
    refine (tSortNil w).mono ?_
    rintro e w' ⟨rfl, rfl⟩
    exact ⟨[], rfl, CoinsOwn.nil _ _, List.Perm.refl _, List.Pairwise.nil, World.grownBy.refl _ _⟩
  · subst hv
    have hrow := row_of_own hgb hct
    refine (tSort g L0.length cap L0 _ w hrow rfl (Or.inl hn)).mono ?_
    rintro e w' ⟨rfl, L, hr, ho, hP, hS⟩
    have hl := hP.length_eq
    have h1 : (flat2 (L.map Co.pair)).length = L.length * 2 := by rw [flat2_length]; simp
    refine ⟨L, rfl, ⟨⟨by rw [flat2_length]; simp, Or.inr ⟨g, cap, (flat2 (L.map Co.pair) ++ cur.toList.drop (L0.length * 2)).toArray, by rw [hl], hbg, hr, by omega, hcm, ?_, ?_⟩⟩, fun x hx => (h.2 x (hP.mem_iff.1 hx)).only ho hrow⟩, hP, hS, ho⟩
    · simp [h1]; omega
    · rw [show (flat2 (L.map Co.pair) ++ cur.toList.drop (L0.length * 2)).toArray.toList = flat2 (L.map Co.pair) ++ cur.toList.drop (L0.length * 2) from rfl, List.take_append_of_le_length (by omega), List.take_of_length_le (by omega)]
/-- Another row stays. -/
theorem own_keep {w w' : World} {base b2 : Nat} {v v2 : Value} {L M : List Co} (h2 : CoinsOwn w b2 v2 M) (h : CoinsOwn w base v L) (hg : w.grownBy w' v.ownBlock) (hne : ∀ g, v.ownBlock = some g → v2.ownBlock ≠ some g) : CoinsOwn w' b2 v2 M := by
  refine ⟨⟨h2.1.1, ?_⟩, fun x hx => (h2.2 x hx).grown h.1 hg⟩
  rcases h2.1.2 with hn | ⟨g, cap, cur, hv, hb, hh, r⟩
  · exact Or.inl hn
  · refine Or.inr ⟨g, cap, cur, hv, hb, ?_, r⟩
    rw [← hh]
    refine hg.block g (Array.getElem?_eq_some_iff.1 hh).1 fun e => hne g e.symm ?_
    rw [hv]; rfl
theorem own_block {w : World} {base : Nat} {v : Value} {L : List Co} (h : CoinsOwn w base v L) : ∀ g, v.ownBlock = some g → base ≤ g ∧ g < w.heap.size := by
  intro g hg
  rcases h.1.2 with ⟨hv, _⟩ | ⟨g', cap, cur, hv, hb, hh, _⟩
  · subst hv; simp [Value.ownBlock] at hg
  · subst hv
    simp [Value.ownBlock] at hg
    subst hg
    exact ⟨hb, (Array.getElem?_eq_some_iff.1 hh).1⟩
theorem grown_old {w w' : World} {base : Nat} {v : Value} {L : List Co} (h : CoinsOwn w base v L) (hg : w.grownBy w' v.ownBlock) {w0 : World} (e0 : Ext w0 w) (hb : w0.heap.size ≤ base) : Ext w0 w' :=
  Below.grown e0 hg e0.size (fun g hv => Nat.le_trans hb (own_block h g hv).1)

theorem coinEq_eq (s t : ByteArray) (y z : Int) : coinEq s t y z = decide ((s, y) = (t, z)) := by
  unfold coinEq
  rw [key_beq]
  by_cases h : s = t
  · subst h
    by_cases k : y = z
    · subst k; simp [cmpZ]
    · have : cmpZ y z ≠ 0 := by unfold cmpZ; split; · decide
                                split; · decide
                                omega
      simp [k, this]
  · simp [h]

/-- Two lists held against each other: of different lengths; or sorted, and then coin by coin. -/
def RetEqual (b1 b2 : Nat) (L0 M0 : List Co) (w : World) (e : Ending) (w' : World) : Prop :=
  ((L0.length ≠ M0.length ∧ e = .returned (.bool false)) ∨ ∃ L M : List Co, L.Perm L0 ∧ M.Perm M0 ∧ (L.Pairwise fun a b => le (Co.s a) (Co.s b)) ∧ (M.Pairwise fun a b => le (Co.s a) (Co.s b)) ∧ e = .returned (.bool (decide (L.map Co.val = M.map Co.val)))) ∧
  ∀ w0, Ext w0 w → w0.heap.size ≤ b1 → w0.heap.size ≤ b2 → Ext w0 w'
theorem val_take {L M : List Co} {k : Nat} (hk : k < L.length) (hk' : k < M.length) (h : (L.map Co.val).take k = (M.map Co.val).take k) (e : Co.val L[k] = Co.val M[k]) : (L.map Co.val).take (k + 1) = (M.map Co.val).take (k + 1) := by
  rw [List.take_succ_eq_append_getElem (by simpa using hk), List.take_succ_eq_append_getElem (by simpa using hk'), h]
  simp [e]
theorem val_ne {L M : List Co} {k : Nat} (hk : k < L.length) (hk' : k < M.length) (e : Co.val L[k] ≠ Co.val M[k]) : decide (L.map Co.val = M.map Co.val) = false := by
  rw [decide_eq_false_iff_not]; intro h
  have : (L.map Co.val)[k]? = (M.map Co.val)[k]? := by rw [h]
  rw [List.getElem?_eq_getElem (by simpa using hk), List.getElem?_eq_getElem (by simpa using hk')] at this
  simp at this; exact e this

set_option maxRecDepth 100000 in
set_option maxHeartbeats 2000000 in
theorem tEqualOwn {b1 b2 : Nat} {v v' : Value} {L0 M0 : List Co} {w : World} (h : CoinsOwn w b1 v L0) (h' : CoinsOwn w b2 v' M0) (hsep : ∀ g, v.ownBlock = some g → v'.ownBlock ≠ some g) (h1 : L0.length ≤ 12) (h2 : M0.length ≤ 12) (hz : ∀ x ∈ L0 ++ M0, x.z.natAbs < B64) :
    Calls Tryz.prog 77 #[v, v'] w (RetEqual b1 b2 L0 M0 w) := by
  obtain ⟨A, c, rfl⟩ := coins_shape h
  obtain ⟨B, d, rfl⟩ := coins_shape h'
  obtain ⟨n, hn⟩ : ∃ n, n = L0.length := ⟨_, rfl⟩
  obtain ⟨m, hm⟩ : ∃ m, m = M0.length := ⟨_, rfl⟩
  have HO := Lib.hid h; have HO' := Lib.hid h'; have HSEP := Lib.hid hsep; have HZ := Lib.hid hz; have HN := Lib.hid hn; have HM := Lib.hid hm
  rw [← hn] at HO HSEP ⊢
  rw [← hm] at HO' HSEP ⊢
  have h12 : n ≤ 12 := by omega
  have h12' : m ≤ 12 := by omega
  clear h h' hsep hz hn hm h1 h2
  by_cases hnm : n = m
  · subst hnm
    go_enter Tryz.func77, Tryz.ntmps77
    go_wp2_with (fail)
    go_at_call 126
    refine (tSortRow HO.out (by have := HN.out; omega)).mono ?_
    rintro e w1 ⟨L, rfl, ho1, hp1, hs1, hg1⟩
    have HO1 := Lib.hid ho1; have HP1 := Lib.hid hp1; have HS1 := Lib.hid hs1; have HG1 := Lib.hid hg1
    have HK1 := Lib.hid (own_keep HO'.out HO.out hg1 HSEP.out)
    clear ho1 hp1 hs1 hg1
    go_wp2_with (fail)
    go_at_call 126
    refine (tSortRow HK1.out (by have := HM.out; omega)).mono ?_
    rintro e w2 ⟨M, rfl, ho2, hp2, hs2, hg2⟩
    have HO2 := Lib.hid ho2; have HP2 := Lib.hid hp2; have HS2 := Lib.hid hs2
    have HK2 := Lib.hid (own_keep HO1.out HK1.out hg2 (fun g hg e => HSEP.out g e hg))
    have HG := Lib.hid (fun w0 (e0 : Ext w0 w) hb1 hb2 => grown_old HK1.out hg2 (grown_old HO.out HG1.out e0 hb1) hb2)
    have HLn := Lib.hid (show L.length = n by rw [HP1.out.length_eq, ← HN.out])
    have HMn := Lib.hid (show M.length = n by rw [HP2.out.length_eq, ← HM.out])
    clear ho2 hp2 hs2 hg2
    go_wp2_with (fail)
    go_loopw [17] (fun i wr => ∃ (k : Nat), k ≤ n ∧ i = .int .i64 k ∧ (L.map Co.val).take k = (M.map Co.val).take k ∧ Ext w2 wr) (fun i _ => n - (intOf i).toNat)
    case atStart => exact ⟨0, Nat.zero_le _, rfl, rfl, Ext.refl _⟩
    case round =>
      obtain ⟨k, hk, rfl, hq, hE⟩ := hrel
      have HQ := Lib.hid hq; have HE := Lib.hid hE
      clear hq hE
      by_cases hlt : k < n
      · have hkl : k < L.length := by rw [HLn.out]; exact hlt
        have hkm : k < M.length := by rw [HMn.out]; exact hlt
        obtain ⟨s, hs⟩ : ∃ s, s = L[k].s := ⟨_, rfl⟩
        obtain ⟨a, ha⟩ : ∃ a, a = L[k].b := ⟨_, rfl⟩
        obtain ⟨y, hy⟩ : ∃ y, y = L[k].z := ⟨_, rfl⟩
        obtain ⟨t, ht⟩ : ∃ t, t = M[k].s := ⟨_, rfl⟩
        obtain ⟨b, hb⟩ : ∃ b, b = M[k].b := ⟨_, rfl⟩
        obtain ⟨z, hzz⟩ : ∃ z, z = M[k].z := ⟨_, rfl⟩
        have hat := (own_at HK2.out).1
        have hbt := (own_at HO2.out).1
        obtain ⟨g, o, hA, hc⟩ := hat.1 (by intro e; have := congrArg List.length e; simp at this; rw [this] at hkl; simp at hkl)
        obtain ⟨g', o', hB, hc'⟩ := hbt.1 (by intro e; have := congrArg List.length e; simp at this; rw [this] at hkm; simp at hkm)
        subst hA; subst hB
        have hck := hc k (by simpa using hkl)
        have hck' := hc' k (by simpa using hkm)
        have cs0 : wr.cell? ⟨g, o + k * 2, none⟩ = some (.string s) := HE.out.cell' (by rw [hck.1, hs]; simp [Co.pair])
        have cs1 : wr.cell? ⟨g, o + k * 2 + 1, none⟩ = some (.pointer (some ⟨a, 0, none⟩)) := HE.out.cell' (by rw [hck.2, ha]; simp [Co.pair])
        have ct0 : wr.cell? ⟨g', o' + k * 2, none⟩ = some (.string t) := HE.out.cell' (by rw [hck'.1, ht]; simp [Co.pair])
        have ct1 : wr.cell? ⟨g', o' + k * 2 + 1, none⟩ = some (.pointer (some ⟨b, 0, none⟩)) := HE.out.cell' (by rw [hck'.2, hb]; simp [Co.pair])
        have HA := Lib.hid (show BigAt wr a y by rw [ha, hy]; exact (hat.2 _ (List.getElem_mem hkl)).ext HE.out)
        have HB := Lib.hid (show BigAt wr b z by rw [hb, hzz]; exact (hbt.2 _ (List.getElem_mem hkm)).ext HE.out)
        have hyb : y.natAbs < B64 := by rw [hy]; exact HZ.out _ (List.mem_append_left _ (HP1.out.mem_iff.1 (List.getElem_mem hkl)))
        have hzb : z.natAbs < B64 := by rw [hzz]; exact HZ.out _ (List.mem_append_right _ (HP2.out.mem_iff.1 (List.getElem_mem hkm)))
        have HV := Lib.hid (show Co.val L[k] = (s, y) by rw [hs, hy]; rfl)
        have HV' := Lib.hid (show Co.val M[k] = (t, z) by rw [ht, hzz]; rfl)
        clear hs ha hy ht hb hzz hck hck' hc hc' hat hbt
        obtain ⟨r, hr⟩ : ∃ r, r = coinEq s t y z := ⟨_, rfl⟩
        have HEQ := Lib.hid (fun (W : World) (e : Ext wr W) => tEqual s t a b y z W (HA.out.ext e) (HB.out.ext e) hyb hzb)
        rw [← hr] at HEQ
        have HR := Lib.hid (hr.trans (coinEq_eq s t y z)); clear hr hyb hzb
        have b0 : (0 : Int) ≤ (k : Int) := by omega
        have b1 : (k : Int) < (n : Int) := by omega
        cases r
        · have F := Lib.hid (val_ne hkl hkm (by rw [HV.out, HV'.out]; exact of_decide_eq_false HR.out.symm))
          go_wp2
          go_region_law (first | (go_simp; go_at_call 127; refine (HEQ.out _ (by exact Ext.drewN' _ 1)).mono ?_; rintro e w3 ⟨rfl, hE⟩; have HE3 := Lib.hid (Ext.undrew hE); clear hE))
          all_goals go_wp2
          all_goals go_ret
          all_goals exact ⟨Or.inr ⟨L, M, HP1.out, HP2.out, HS1.out, HS2.out, by rw [F.out]; rfl⟩, fun w0 e0 h1 h2 => ((HG.out w0 e0 h1 h2).trans' HE.out).trans' HE3.out⟩
        · have F := Lib.hid (val_take hkl hkm HQ.out (by rw [HV.out, HV'.out]; exact of_decide_eq_true HR.out.symm))
          go_wp2
          go_region_law (first | (go_simp; go_at_call 127; refine (HEQ.out _ (by exact Ext.drewN' _ 1)).mono ?_; rintro e w3 ⟨rfl, hE⟩; have HE3 := Lib.hid (Ext.undrew hE); clear hE))
          all_goals go_wp2
          all_goals exact ⟨⟨k + 1, by omega, by go_num, F.out, HE.out.trans' HE3.out⟩, by simp [intOf]; omega⟩
      · obtain rfl : k = n := by omega
        have F := Lib.hid (show decide (L.map Co.val = M.map Co.val) = true by
          have := HQ.out
          rw [List.take_of_length_le (by simp; have := HLn.out; omega), List.take_of_length_le (by simp; have := HMn.out; omega)] at this
          simpa using this)
        go_wp2
        go_ret
        exact ⟨Or.inr ⟨L, M, HP1.out, HP2.out, HS1.out, HS2.out, by rw [F.out]; rfl⟩, fun w0 e0 h1 h2 => (HG.out w0 e0 h1 h2).trans' HE.out⟩
  · have d1 : ((n : Int) == (m : Int)) = false := by simp; omega
    go_enter Tryz.func77, Tryz.ntmps77
    go_wp2
    go_ret
    exact ⟨Or.inl ⟨by rw [← HN.out, ← HM.out]; exact hnm, rfl⟩, fun w0 e0 _ _ => e0⟩

theorem both2 {α : Type} {Q : α → Prop} {l m : List α} (h : ∀ x ∈ l, Q x) (k : ∀ x ∈ m, Q x) : ∀ x ∈ l ++ m, Q x := fun x hx => (List.mem_append.1 hx).elim (h x) (k x)
/-- Two plain lists held against each other. -/
def RetEqualOf (l l' : List (ByteArray × Int)) (w : World) (e : Ending) (w' : World) : Prop :=
  ((l.length ≠ l'.length ∧ e = .returned (.bool false)) ∨ ∃ r r' : List (ByteArray × Int), r.Perm l ∧ r'.Perm l' ∧ (r.Pairwise fun a b => le a.1 b.1) ∧ (r'.Pairwise fun a b => le a.1 b.1) ∧ e = .returned (.bool (decide (r = r')))) ∧ Ext w w'
theorem val_bound {cs : List Co} {l : List (ByteArray × Int)} (h : cs.map Co.val = l) (hz : ∀ x ∈ l, -maxI ≤ x.2 ∧ x.2 ≤ maxI) : ∀ x ∈ cs, x.z.natAbs < B64 := by
  intro x hx
  have := hz x.val (by rw [← h]; exact List.mem_map_of_mem hx)
  have e : x.val.2 = x.z := rfl
  rw [e] at this; unfold maxI at this; unfold B64; omega

set_option maxRecDepth 100000 in
set_option maxHeartbeats 1000000 in
theorem iEqualOf (A B : Option Addr) (n c m d : Nat) (l l' : List (ByteArray × Int)) (w : World) (hl : l.length = n) (hl' : l'.length = m) (hn : n ≤ 12) (hm : m ≤ 12) (h : PlainAt w A l) (h' : PlainAt w B l') (hz : ∀ x ∈ l, -maxI ≤ x.2 ∧ x.2 ≤ maxI) (hz' : ∀ x ∈ l', -maxI ≤ x.2 ∧ x.2 ≤ maxI) :
    Calls Tryz.prog 30 #[.slice A n c, .slice B m d] w (RetEqualOf l l' w) := by
  have H1 := Lib.hid (iCoins A n c l w hl (by omega) h hz)
  have H2 := Lib.hid (fun (W : World) (e : Ext w W) => iCoins B m d l' W hl' (by omega) (h'.ext e) hz')
  have HL := Lib.hid hl; have HL' := Lib.hid hl'; have HZ := Lib.hid hz; have HZ' := Lib.hid hz'
  clear hl hl' h h' hz hz'
  go_enter Tryz.func30, Tryz.ntmps30
  go_wp2_with (fail)
  go_at_call 72
  refine H1.out.mono ?_
  rintro e w1 ⟨v, cs, rfl, hcv, hown, hE⟩
  have HV := Lib.hid hcv; have HO := Lib.hid hown; have HE := Lib.hid hE; have HN := Lib.hid (show cs.length = n by rw [← HL.out, ← hcv]; simp)
  clear hcv hown hE
  go_wp2_with (fail)
  go_at_call 72
  refine (H2.out _ HE.out).mono ?_
  rintro e w2 ⟨v2, cs2, rfl, hcv2, hown2, hE2⟩
  have HV2 := Lib.hid hcv2; have HO2 := Lib.hid hown2; have HE2 := Lib.hid hE2; have HN2 := Lib.hid (show cs2.length = m by rw [← HL'.out, ← hcv2]; simp)
  clear hcv2 hown2 hE2
  go_wp2_with (fail)
  go_at_call 77
  refine (tEqualOwn (HO.out.ext HE2.out) HO2.out (fun g hg e => by have := (own_block HO.out g hg).2; have := (own_block HO2.out g e).1; omega) (by have := HN.out; omega) (by have := HN2.out; omega) (both2 (val_bound HV.out HZ.out) (val_bound HV2.out HZ'.out))).mono ?_
  rintro e w3 ⟨hres, hE3⟩
  have HE3 := Lib.hid (hE3 w (HE.out.trans' HE2.out) (Nat.le_refl _) HE.out.size)
  clear hE3
  rcases hres with ⟨hne, rfl⟩ | ⟨L, M, hp1, hp2, hs1, hs2, rfl⟩
  · go_wp2
    go_ret
    exact ⟨Or.inl ⟨by rw [HL.out, HL'.out, ← HN.out, ← HN2.out]; exact hne, rfl⟩, HE3.out⟩
  · have HR := Lib.hid (And.intro hp1 (And.intro hp2 (And.intro hs1 hs2)))
    clear hp1 hp2 hs1 hs2
    go_wp2
    go_ret
    exact ⟨Or.inr ⟨L.map Co.val, M.map Co.val, perm_plain HR.out.1 HV.out, perm_plain HR.out.2.1 HV2.out, by rw [List.pairwise_map]; exact HR.out.2.2.1, by rw [List.pairwise_map]; exact HR.out.2.2.2, rfl⟩, HE3.out⟩

theorem equal_fact {l l' : List (ByteArray × Int)} {w w' : World} {e : Ending} (h : RetEqualOf l l' w e w') (ho : onceB l = true) (ho' : onceB l' = true) :
    ∃ q : Bool, e = .returned (.bool q) ∧ (∀ ra rb : List (ByteArray × Int), ra.Perm l → (ra.Pairwise fun a b => le a.1 b.1) → rb.Perm l' → (rb.Pairwise fun a b => le a.1 b.1) → decide (ra = rb) = q) ∧ Ext w w' := by
  obtain ⟨h1, h2⟩ := h
  rcases h1 with ⟨hne, rfl⟩ | ⟨r, r', hp, hp', hs, hs', rfl⟩
  · refine ⟨false, rfl, fun ra rb h3 _ h5 _ => ?_, h2⟩
    rw [decide_eq_false_iff_not]; rintro rfl
    exact hne (h3.length_eq.symm.trans h5.length_eq)
  · refine ⟨_, rfl, fun ra rb h3 h4 h5 h6 => ?_, h2⟩
    rw [sorted_same h3 h4 hp hs ho, sorted_same h5 h6 hp' hs' ho']
end Go.Proofs.YtagfbefgcijegaaGreatDoor

namespace Go.Proofs.YtagfbefgcijegaaGreatDoor
open Go Go.RowKit

theorem run_append_none {P : Program} (w : World) (t ty e : TypeId) (i : TypeInfo) (h1 : P.underlying t = some (.slice e)) (h2 : P.info? e = some i) (a x : Option Addr) (n cap c : Nat) (h : n ≤ cap) :
    (Builtin.append_ #[t, t] ty #[.slice a n cap, .slice x 0 c]).run P w = .ok (.slice a n cap) w := by
  cases a <;> cases x <;> simp [Builtin.append_, run_underlying h1, Go.sizeOf, typeInfo, h2, Result.andThen, Builtin.lenOf, Builtin.firstCells, h, storeCells, loadCells, loadCellsFrom]
theorem step_append_none {P : Program} {ops : Array Oper} {o : Oper} {a : Act} {w : World} {K : Act → World → Prop} {Q : Exit → Act → World → Prop} {E : Prop}
    (hg : o.guard = none) (s x : Operand) (t : TypeId) (hop : o.op = Op.call { callee := Callee.builtin Builtin.append, args := #[s, x], argTypes := #[t, t] })
    (e : TypeId) (i : TypeInfo) (h1 : P.underlying t = some (.slice e)) (h2 : P.info? e = some i) (ao ax : Option Addr) (n cap c : Nat) (hs : a.eval s = .slice ao n cap) (hx : a.eval x = .slice ax 0 c) (h : n ≤ cap)
    (hK : K (a.put o.dst (.slice ao n cap)) w) : if Region.wanted o (yielded ops a.tmps) = true then Oper.wp P o a w K Q else E := by
  have hw : Region.wanted o (yielded ops a.tmps) = true := by simp [Region.wanted, hg]
  rw [if_pos hw]
  have hrun := run_append_none (P := P) w t o.type e i h1 h2 ao ax n cap c h
  unfold Oper.wp
  simp [execOp, hop, resolve, invoke, builtin, hs, hx, hrun, Result.andThen]
  exact hK

theorem ext_none {a b : World} (h : a.grownBy b none) : Ext a b := ⟨h.os, h.tape, h.output, h.size, fun i hi => h.block i hi (by simp)⟩
theorem ext_da (w : World) (o o' : Obj) (n : Nat) : Ext w (((w.alloc o).drewN n).alloc o') := ((Ext.alloc' _ _).trans' (Ext.drewN' _ _)).trans' (Ext.alloc' _ _)
theorem ext_dda (w : World) (o o' : Obj) (n : Nat) : Ext w (((w.alloc o).drewN n).drew.alloc o') := (((Ext.alloc' _ _).trans' (Ext.drewN' _ _)).trans' (Ext.drewN' _ 1)).trans' (Ext.alloc' _ _)
theorem two_da (w : World) (a b : Value) (t : TypeId) (n : Nat) : ∀ j u, [a, b][j]? = some u → (((w.alloc (.cells #[a, b] t)).drewN n).alloc (.cells #[a, b] t)).cell? ((⟨w.heap.size + 1, 0, none⟩ : Addr).add j) = some u := by
  have := cell_two_new ((w.alloc (.cells #[a, b] t)).drewN n) a b t
  rwa [show ((w.alloc (.cells #[a, b] t)).drewN n).heap.size = w.heap.size + 1 by simp] at this
theorem keep_rec {a b : World} {g : Nat} {u v : Value} (h : a.cell? ⟨g, 0, none⟩ = some u ∧ a.cell? ⟨g, 1, none⟩ = some v) (e : Ext a b) : b.cell? ⟨g, 0, none⟩ = some u ∧ b.cell? ⟨g, 1, none⟩ = some v := ⟨e.cell' h.1, e.cell' h.2⟩
theorem two_at (w : World) (a b : Value) (t : TypeId) (n : Nat) : (((w.alloc (.cells #[a, b] t)).drewN n).alloc (.cells #[a, b] t)).cell? ⟨w.heap.size, 0, none⟩ = some a ∧ (((w.alloc (.cells #[a, b] t)).drewN n).alloc (.cells #[a, b] t)).cell? ⟨w.heap.size, 1, none⟩ = some b :=
  ⟨cell_old _ (show (w.alloc _).cell? _ = _ by rw [cell_new]; rfl), cell_old _ (show (w.alloc _).cell? _ = _ by rw [cell_new]; rfl)⟩
theorem two_at' (w : World) (a b : Value) (t : TypeId) (n : Nat) : (((w.alloc (.cells #[a, b] t)).drewN n).drew.alloc (.cells #[a, b] t)).cell? ⟨w.heap.size, 0, none⟩ = some a ∧ (((w.alloc (.cells #[a, b] t)).drewN n).drew.alloc (.cells #[a, b] t)).cell? ⟨w.heap.size, 1, none⟩ = some b :=
  ⟨cell_old _ (show (w.alloc _).cell? _ = _ by rw [cell_new]; rfl), cell_old _ (show (w.alloc _).cell? _ = _ by rw [cell_new]; rfl)⟩
theorem flat2_drop (l : List (Value × Value)) (j : Nat) : flat2 (l.drop j) = (flat2 l).drop (j * 2) := by
  induction l generalizing j with
  | nil => simp [flat2]
  | cons a t ih =>
    cases j with
    | zero => simp
    | succ j =>
      rw [List.drop_succ_cons, ih, show (j + 1) * 2 = j * 2 + 1 + 1 by omega]
      simp [flat2]
/-- The cells of a row's end. -/
theorem row_part {w W : World} {g : Nat} {E : TypeId} {cur : Array Value} {out : List (ByteArray × Int)} (hb : Blk w g E cur.toList) (ht : cur.toList.take (out.length * 2) = flat2 (out.map plain)) (e : Ext w W) (j : Nat) (_ : j ≤ out.length) :
    ∀ i u, (flat2 ((out.drop j).map plain))[i]? = some u → W.cell? ((⟨g, j * 2, none⟩ : Addr).add i) = some u := by
  intro i u hu
  rw [List.map_drop, flat2_drop, List.getElem?_drop, ← ht, List.getElem?_take] at hu
  split at hu
  · have hadd : (⟨g, j * 2, none⟩ : Addr).add i = ⟨g, j * 2 + i, none⟩ := by unfold Addr.add; split <;> simp_all
    rw [hadd]
    exact e.cell' ((hb.cell _).trans hu)
  · cases hu
theorem flat2_take (l : List (Value × Value)) (j : Nat) : flat2 (l.take j) = (flat2 l).take (j * 2) := by
  induction l generalizing j with
  | nil => simp [flat2]
  | cons a t ih =>
    cases j with
    | zero => simp [flat2]
    | succ j =>
      rw [List.take_succ_cons, flat2_cons, ih, flat2_cons, show (j + 1) * 2 = j * 2 + 1 + 1 by omega]
      simp
/-- The cells of a row's head. -/
theorem row_head {w W : World} {g : Nat} {E : TypeId} {cur : Array Value} {out : List (ByteArray × Int)} (hb : Blk w g E cur.toList) (ht : cur.toList.take (out.length * 2) = flat2 (out.map plain)) (e : Ext w W) (j : Nat) (_ : j ≤ out.length) (b : Addr) (hB : (some (⟨g, 0, none⟩ : Addr)) = some b) :
    ∀ i u, (flat2 ((out.take j).map plain))[i]? = some u → W.cell? (b.add i) = some u := by
  intro i u hu
  obtain rfl := (Option.some.inj hB).symm
  rw [List.map_take, flat2_take, ← ht, List.getElem?_take, List.getElem?_take] at hu
  split at hu
  · split at hu
    · have hadd : (⟨g, 0, none⟩ : Addr).add i = ⟨g, i, none⟩ := by unfold Addr.add; split <;> simp_all
      rw [hadd]
      exact e.cell' ((hb.cell _).trans hu)
    · cases hu
  · cases hu
theorem row_fst {w : World} {g : Nat} {E : TypeId} {cur : Array Value} {out : List (ByteArray × Int)} (hb : Blk w g E cur.toList) (ht : cur.toList.take (out.length * 2) = flat2 (out.map plain)) (j : Nat) (hj : j < out.length) : w.cell? ⟨g, j * 2, none⟩ = some (.string out[j].1) := by
  have h1 := (flat2_get (out.map plain) j (by simpa using hj)).1
  rw [← ht, List.getElem?_take, if_pos (by omega)] at h1
  rw [hb.cell, h1]; simp [plain]
theorem ins_fin {w W1 w40 : World} {base J m : Nat} {E : TypeId} {v : Value} {s : ByteArray} {z : Int} {out : List (ByteArray × Int)} (hE : Ext w W1)
    (h : w40.ownsRow base E 2 v (J + (1 + m)) (flat2 ((out.take J).map plain) ++ ([.string s, .int .i64 z] ++ flat2 ((out.drop J).map plain)))) (e : Ext W1 w40) (hb : w.heap.size ≤ base) :
    PlainOwn w40 w.heap.size E v (out.take J ++ (s, z) :: out.drop J) ∧ Ext w w40 := by
  refine ⟨?_, hE.trans' e⟩
  have hl : (out.take J ++ (s, z) :: out.drop J).length = J + (1 + m) := by
    have := h.1
    simp only [List.length_append, flat2_length, List.length_map, List.length_cons, List.length_nil] at this ⊢
    omega
  unfold PlainOwn
  rw [hl]
  have := row_low h hb
  simpa [flat2_append, flat2_cons, plain] using this
theorem ins_fin0 {w W1 w40 : World} {base J : Nat} {E : TypeId} {v : Value} {s : ByteArray} {z : Int} {out : List (ByteArray × Int)} (hE : Ext w W1)
    (h : w40.ownsRow base E 2 v (J + 1) (flat2 ((out.take J).map plain) ++ [.string s, .int .i64 z])) (e : Ext W1 w40) (hb : w.heap.size ≤ base) :
    PlainOwn w40 w.heap.size E v (out.take J ++ [(s, z)]) ∧ Ext w w40 := by
  refine ⟨?_, hE.trans' e⟩
  have hl : (out.take J ++ [(s, z)]).length = J + 1 := by
    have := h.1
    simp only [List.length_append, flat2_length, List.length_map, List.length_cons, List.length_nil] at this ⊢
    omega
  unfold PlainOwn
  rw [hl]
  have := row_low h hb
  simpa [flat2_append, flat2_cons, plain, flat2] using this
theorem ins_perm {l out : List (ByteArray × Int)} {k : Nat} {s : ByteArray} {z : Int} (hk : k < l.length) (hp : out.Perm (l.take k)) (he : l[k] = (s, z)) (J : Nat) : (out.take J ++ (s, z) :: out.drop J).Perm (l.take (k + 1)) := by
  rw [List.take_succ_eq_append_getElem hk, he]
  refine List.perm_middle.trans ?_
  rw [List.take_append_drop]
  exact (List.Perm.cons _ hp).trans (List.perm_append_singleton _ _).symm
theorem ins_perm0 {l out : List (ByteArray × Int)} {k : Nat} {s : ByteArray} {z : Int} {J : Nat} (hk : k < l.length) (hp : out.Perm (l.take k)) (he : l[k] = (s, z)) (hJ : out.length ≤ J) : (out.take J ++ [(s, z)]).Perm (l.take (k + 1)) := by
  have := ins_perm hk hp he J
  rwa [List.drop_eq_nil_of_le hJ] at this
theorem ins_pair {out : List (ByteArray × Int)} {J : Nat} {s : ByteArray} {z : Int} (h : out.Pairwise fun a b => le a.1 b.1) (hq : ∀ p, (hp : p < out.length) → J ≤ p → keyLt s out[p].1 = true) (hlo : ∀ p, (hp : p < out.length) → p < J → le out[p].1 s) (_ : J ≤ out.length) :
    (out.take J ++ (s, z) :: out.drop J).Pairwise fun a b => le a.1 b.1 := by
  have h1 : ∀ a ∈ out.take J, le a.1 s := fun a ha => by
    obtain ⟨p, hp, rfl⟩ := List.getElem_of_mem ha
    simp at hp
    rw [List.getElem_take]; exact hlo p (by omega) (by omega)
  have h2 : ∀ b ∈ out.drop J, le s b.1 := fun b hb => by
    obtain ⟨p, hp, rfl⟩ := List.getElem_of_mem hb
    simp at hp
    rw [List.getElem_drop]; exact le_of_lt (hq _ (by omega) (by omega))
  rw [List.pairwise_append]
  refine ⟨h.sublist (List.take_sublist _ _), ?_, ?_⟩
  · rw [List.pairwise_cons]
    exact ⟨h2, h.sublist (List.drop_sublist _ _)⟩
  · intro a ha b hb
    rcases List.mem_cons.1 hb with rfl | hb
    · exact h1 a ha
    · exact le_trans (h1 a ha) (h2 b hb)
theorem ins_pair0 {out : List (ByteArray × Int)} {J : Nat} {s : ByteArray} {z : Int} (h : out.Pairwise fun a b => le a.1 b.1) (hlo : ∀ p, (hp : p < out.length) → p < J → le out[p].1 s) (hJ : out.length ≤ J) :
    (out.take J ++ [(s, z)]).Pairwise fun a b => le a.1 b.1 := by
  rw [List.take_of_length_le hJ, List.pairwise_append]
  refine ⟨h, List.pairwise_singleton _ _, fun a ha b hb => ?_⟩
  rw [List.mem_singleton] at hb; subst hb
  obtain ⟨p, hp, rfl⟩ := List.getElem_of_mem ha
  exact hlo p hp (by omega)
theorem plain_one' (l : List (ByteArray × Int)) : ∀ u ∈ flat2 (l.map plain), u.oneCell' = true := by
  intro u hu
  obtain ⟨p, hp, hu⟩ := List.mem_flatMap.1 hu
  obtain ⟨x, _, rfl⟩ := List.mem_map.1 hp
  simp [plain] at hu
  rcases hu with rfl | rfl <;> rfl

set_option maxRecDepth 100000 in
set_option maxHeartbeats 2000000 in
theorem sSumSorted (A : Option Addr) (n c : Nat) (l : List (ByteArray × Int)) (w : World) (hl : l.length = n) (hn : n ≤ 100000) (h : PlainAt w A l) :
    Calls Tryz.prog 31 #[.slice A n c] w fun e w' => ∃ r, RetPlain 43 r w e w' ∧ r.Perm l ∧ r.Pairwise fun a b => le a.1 b.1 := by
  obtain ⟨i0, hi, hz0, hz1, hz2⟩ := info_parts infoSum
  have HL := Lib.hid hl; have HP := Lib.hid h
  clear hl h
  go_enter Tryz.func31, Tryz.ntmps31
  go_wp2
  go_loopw [3, 9] (fun v i wr => ∃ (k : Nat) (out : List (ByteArray × Int)), k ≤ n ∧ i = .int .i64 k ∧ out.length = k ∧ out.Perm (l.take k) ∧ (out.Pairwise fun a b => le a.1 b.1) ∧ PlainOwn wr w.heap.size 43 v out ∧ Ext w wr) (fun _ i _ => n - (intOf i).toNat)
  case atStart => exact ⟨0, [], Nat.zero_le _, rfl, rfl, List.Perm.refl _, List.Pairwise.nil, PlainOwn.nil _ _ _, Ext.refl _⟩
  case round =>
    obtain ⟨k, out, hk, rfl, hcl, hperm, hasc, hown, hE⟩ := hrel
    have HCL := Lib.hid hcl; have HPM := Lib.hid hperm; have HAS := Lib.hid hasc; have HO := Lib.hid hown; have HE := Lib.hid hE
    clear hcl hperm hasc hown hE
    by_cases hlt : k < n
    · have hkl : k < l.length := by rw [HL.out]; exact hlt
      obtain ⟨s, hs⟩ : ∃ s, s = l[k].1 := ⟨_, rfl⟩
      obtain ⟨z, hzz⟩ : ∃ z, z = l[k].2 := ⟨_, rfl⟩
      obtain ⟨g, o, hA, hc⟩ := HP.out (by intro e; have := congrArg List.length e; simp at this; rw [this] at hkl; simp at hkl)
      subst hA
      have hck := hc k (by simpa using hkl)
      have cs0 : wr.cell? ⟨g, o + k * 2, none⟩ = some (.string s) := HE.out.cell' (by rw [hck.1, hs]; simp [plain])
      have cs1 : wr.cell? ⟨g, o + k * 2 + 1, none⟩ = some (.int .i64 z) := HE.out.cell' (by rw [hck.2, hzz]; simp [plain])
      have HEL := Lib.hid (show l[k] = (s, z) by rw [hs, hzz])
      clear hs hzz hck hc
      rcases HO.out.2 with ⟨hv, hn0⟩ | ⟨q0, cap, cur, hv, hbg, hgb, hnc, hcm, hcs, hct⟩
      · subst hv
        obtain rfl : out = [] := List.length_eq_zero_iff.1 hn0
        obtain rfl : k = 0 := by have := HCL.out; simpa using this.symm
        obtain ⟨W1, hW1⟩ : ∃ W1, W1 = wr := ⟨_, rfl⟩
        subst hW1
        simp only [Nat.zero_mul, Nat.add_zero] at cs0 cs1
        go_wp2
        go_loopw [6] (fun i wz => ∃ q : Nat, i = .int .i64 0 ∧ wz = (W1.alloc (.cells #[.string s, .int .i64 z] 43)).drewN q) (fun _ _ => 0)
        case atStart => exact ⟨0, rfl, rfl⟩
        case round =>
          obtain ⟨q, rfl, rfl⟩ := hrel
          have HLO := Lib.hid (show ∀ p, (hp : p < ([] : List (ByteArray × Int)).length) → p < 0 → le (([] : List (ByteArray × Int))[p]).1 s from fun p _ h => by omega)
          go_wp2
          go_quiet (fail)
          go_wp2
          have TWO := Lib.hid (two_da W1 (.string s) (.int .i64 z) 43)
          have F0 := Lib.hid (show ∀ b : Addr, (some (⟨W1.heap.size + 1, 0, none⟩ : Addr)) = some b → b = ⟨W1.heap.size + 1, 0, none⟩ from fun b h => (Option.some.inj h).symm)
          go_region_held3 (fun w' => w'.cell? ⟨W1.heap.size, 0, none⟩ = some (.string s) ∧ w'.cell? ⟨W1.heap.size, 1, none⟩ = some (.int .i64 z)) (first | exact K40 | go_keep) (first | (refine step_append_none rfl (.tmp 35) (.tmp 38) 22 rfl 43 i0 Tryz.underlying22 hi _ _ 1 1 _ rfl rfl (Nat.le_refl _) ?_) | (refine step_append_grows rfl (.tmp 33) (.tmp 39) 22 rfl 43 i0 _ 2 24 Tryz.underlying22 hi hz0 hz1 hz2 rfl (by decide) none (0) (0) [] rfl ?_ rfl ?_ ⟨W1.heap.size + 1, 0, none⟩ 1 1 [.string s, .int .i64 z] rfl rfl ?_ ?_ ?_ ?_ ?_ ?_; (· intro _; exact ⟨rfl, rfl⟩); (· intro b hb; cases hb); (· first | exact TWO.out _ | exact TWO.out (_ + 1)); (· exact two_one _ _ rfl rfl); (· omega); (· unfold maxLen; omega); (· omega); (intro v40 w40 hown40 hgrow40; have K40 := keep_rec (by first | exact two_at _ _ _ _ _ | exact two_at' _ _ _ _ _) (ext_none hgrow40); have R40 := Lib.hid (ins_fin0 (w := w) (out := []) (J := 0) HE.out hown40 (Ext.trans' (by first | exact ext_da _ _ _ _ | exact ext_dda _ _ _ _ _) (ext_none hgrow40)) (by have := HE.out.size; simp; omega)); clear hown40 hgrow40)))
          go_wp2
          go_roundw
          case rel => exact ⟨0 + 1, ([] : List (ByteArray × Int)).take 0 ++ [(s, z)], by omega, by go_num, by have := HCL.out; simp <;> omega, ins_perm0 hkl HPM.out HEL.out (by have := HCL.out; omega), ins_pair0 HAS.out HLO.out (by have := HCL.out; omega), R40.out.1, R40.out.2⟩
          case measure => simp [intOf]; omega
      · subst hv
        have HB := Lib.hid (show Blk wr q0 43 cur.toList by unfold Blk; simpa using hgb)
        have HCT := Lib.hid hct
        have hkc : k ≤ cap := by rw [← HCL.out]; exact hnc
        clear hgb hct hcs
        obtain ⟨W1, hW1⟩ : ∃ W1, W1 = wr := ⟨_, rfl⟩
        subst hW1
        rw [HCL.out]
        go_wp2
        go_loopw [6] (fun i wz => ∃ (j q : Nat), j ≤ k ∧ i = .int .i64 j ∧ wz = (W1.alloc (.cells #[.string s, .int .i64 z] 43)).drewN q ∧ ∀ p, (hp : p < out.length) → j ≤ p → keyLt s out[p].1 = true) (fun i _ => (intOf i).toNat)
        case atStart => exact ⟨k, 0, Nat.le_refl _, rfl, rfl, fun p hp h => by have := HCL.out; omega⟩
        case round =>
          obtain ⟨j, q, hj, rfl, rfl, hq⟩ := hrel
          have HQ := Lib.hid hq; clear hq
          rcases j with _ | j
          · go_wp2
            go_quiet (fail)
            go_wp2
            have HLO := Lib.hid (show ∀ p, (hp : p < out.length) → p < 0 → le out[p].1 s from fun p _ h => by omega)
            by_cases hk0 : k = 0
            · subst hk0
              have OLD := Lib.hid (fun (W : World) (hW : Ext W1 W) (b : Addr) (hb : (some (⟨q0, 0, none⟩ : Addr)) = some b) => row_head HB.out HCT.out hW 0 (by have := HCL.out; omega) b hb)
              have OL := Lib.hid (show (flat2 ((out.take (0)).map plain)).length = (0) * 2 from by have := HCL.out; rw [flat2_length]; simp <;> omega)
              have TWO := Lib.hid (two_da W1 (.string s) (.int .i64 z) 43)
              have F0 := Lib.hid (show ∀ b : Addr, (some (⟨W1.heap.size + 1, 0, none⟩ : Addr)) = some b → b = ⟨W1.heap.size + 1, 0, none⟩ from fun b h => (Option.some.inj h).symm)
              go_region_held3 (fun w' => w'.cell? ⟨W1.heap.size, 0, none⟩ = some (.string s) ∧ w'.cell? ⟨W1.heap.size, 1, none⟩ = some (.int .i64 z)) (first | exact K40 | go_keep) (first | (refine step_append_none rfl (.tmp 35) (.tmp 38) 22 rfl 43 i0 Tryz.underlying22 hi _ _ 1 1 _ rfl rfl (Nat.le_refl _) ?_) | (refine step_append_grows rfl (.tmp 33) (.tmp 39) 22 rfl 43 i0 _ 2 24 Tryz.underlying22 hi hz0 hz1 hz2 rfl (by decide) (some ⟨q0, 0, none⟩) (0) (0) (flat2 ((out.take (0)).map plain)) rfl ?_ rfl ?_ ⟨W1.heap.size + 1, 0, none⟩ 1 1 [.string s, .int .i64 z] rfl rfl ?_ ?_ ?_ ?_ ?_ ?_; (· intro h; cases h); (· intro b _ i u hu; simp [flat2] at hu); (· first | exact TWO.out _ | exact TWO.out (_ + 1)); (· exact two_one _ _ rfl rfl); (· omega); (· unfold maxLen; omega); (· omega); (intro v40 w40 hown40 hgrow40; have K40 := keep_rec (by first | exact two_at _ _ _ _ _ | exact two_at' _ _ _ _ _) (ext_none hgrow40); have R40 := Lib.hid (ins_fin0 (w := w) HE.out hown40 (Ext.trans' (by first | exact ext_da _ _ _ _ | exact ext_dda _ _ _ _ _) (ext_none hgrow40)) (by have := HE.out.size; simp; omega)); clear hown40 hgrow40)))
              go_wp2
              go_roundw
              case rel => exact ⟨0 + 1, out.take (0) ++ [(s, z)], by omega, by go_num, by have := HCL.out; simp <;> omega, ins_perm0 hkl HPM.out HEL.out (by have := HCL.out; omega), ins_pair0 HAS.out HLO.out (by have := HCL.out; omega), R40.out.1, R40.out.2⟩
              case measure => simp [intOf]; omega
            · have hk1 : 0 < k := by omega
              have OLD := Lib.hid (fun (W : World) (hW : Ext W1 W) (b : Addr) (hb : (some (⟨q0, 0, none⟩ : Addr)) = some b) => row_head HB.out HCT.out hW 0 (by have := HCL.out; omega) b hb)
              have OL := Lib.hid (show (flat2 ((out.take (0)).map plain)).length = (0) * 2 from by have := HCL.out; rw [flat2_length]; simp <;> omega)
              have TWO := Lib.hid (two_da W1 (.string s) (.int .i64 z) 43)
              have F0 := Lib.hid (show ∀ b : Addr, (some (⟨W1.heap.size + 1, 0, none⟩ : Addr)) = some b → b = ⟨W1.heap.size + 1, 0, none⟩ from fun b h => (Option.some.inj h).symm)
              have DROP := Lib.hid (show ∀ W : World, Ext W1 W → ∀ i u, (flat2 ((out.drop (0)).map plain))[i]? = some u → W.cell? ((⟨q0, 0, none⟩ : Addr).add i) = some u from fun W hW i u hu => by have := row_part HB.out HCT.out hW (0) (by have := HCL.out; omega) i u hu; simpa using this)
              have DL := Lib.hid (show (flat2 ((out.drop (0)).map plain)).length = k * 2 from by rw [flat2_length]; simp [HCL.out])
              have ONE := Lib.hid (show ∀ u ∈ flat2 ((out.drop (0)).map plain), u.oneCell' = true from plain_one' _)
              have ONE2 := Lib.hid (show ∀ u ∈ [Value.string s, Value.int .i64 z] ++ flat2 ((out.drop (0)).map plain), u.oneCell' = true from fun u hu => (List.mem_append.1 hu).elim (two_one _ _ rfl rfl u) (plain_one' _ u))
              go_region_held3 (fun w' => w'.cell? ⟨W1.heap.size, 0, none⟩ = some (.string s) ∧ w'.cell? ⟨W1.heap.size, 1, none⟩ = some (.int .i64 z)) (first | exact K40 | exact K39 | go_keep) (first | (refine step_append_grows rfl (.tmp 35) (.tmp 38) 22 rfl 43 i0 _ 2 24 Tryz.underlying22 hi hz0 hz1 hz2 rfl (by decide) (some ⟨W1.heap.size + 1, 0, none⟩) 1 1 [.string s, .int .i64 z] rfl ?_ rfl ?_ ⟨q0, 0, none⟩ k cap (flat2 ((out.drop (0)).map plain)) rfl DL.out ?_ ONE.out ?_ ?_ ?_ ?_; (· intro h; cases h); (· intro b hb; obtain rfl := F0.out b hb; first | exact TWO.out _ | exact TWO.out (_ + 1)); (· exact DROP.out _ (by first | exact ext_da _ _ _ _ | exact ext_dda _ _ _ _ _)); (· omega); (· unfold maxLen; omega); (· omega); (intro v39 w39 hown39 hgrow39; obtain ⟨g39, c39, rfl, hb39, hlt39⟩ := hown39.form (by omega); have E39 := Lib.hid (show Ext W1 w39 from Ext.trans' (by first | exact ext_da _ _ _ _ | exact ext_dda _ _ _ _ _) (ext_none hgrow39)); have K39 := keep_rec (by first | exact two_at _ _ _ _ _ | exact two_at' _ _ _ _ _) (ext_none hgrow39); have O39 := Lib.hid hown39; clear hown39 hgrow39)) | (refine step_append_grows rfl (.tmp 33) (.tmp 39) 22 rfl 43 i0 _ 2 24 Tryz.underlying22 hi hz0 hz1 hz2 rfl (by decide) (some ⟨q0, 0, none⟩) (0) (0) (flat2 ((out.take (0)).map plain)) rfl ?_ rfl ?_ ⟨g39, 0, none⟩ (1 + k) c39 ([.string s, .int .i64 z] ++ flat2 ((out.drop (0)).map plain)) rfl O39.out.1 (O39.out.cells rfl) ONE2.out ?_ ?_ ?_ ?_; (· intro h; cases h); (· intro b _ i u hu; simp [flat2] at hu); (· omega); (· unfold maxLen; omega); (· omega); (intro v40 w40 hown40 hgrow40; have K40 := keep_rec K39 (ext_none hgrow40); have R40 := Lib.hid (And.intro hown40 (E39.out.trans' (ext_none hgrow40))); clear hown40 hgrow40)))
              have R41 := Lib.hid (ins_fin (w := w) HE.out R40.out.1 R40.out.2 (by have := HE.out.size; have := E39.out.size; omega))
              go_wp2
              go_roundw
              case rel => exact ⟨k + 1, out.take (0) ++ (s, z) :: out.drop (0), by omega, by go_num, by have := HCL.out; simp <;> omega, ins_perm hkl HPM.out HEL.out (0), ins_pair HAS.out HQ.out HLO.out (by have := HCL.out; omega), R41.out.1, R41.out.2⟩
              case measure => simp [intOf]; omega
          · have hjl : j < out.length := by have := HCL.out; omega
            obtain ⟨t, ht⟩ : ∃ t, t = out[j].1 := ⟨_, rfl⟩
            have ct0 : W1.cell? ⟨q0, j * 2, none⟩ = some (.string t) := by rw [ht]; exact row_fst HB.out HCT.out j hjl
            have ct1 := cell_old (.cells #[.string s, .int .i64 z] 43) ct0
            have HT := Lib.hid ht; clear ht
            have b0 : (0 : Int) ≤ (j : Int) := by omega
            have b1 : (j : Int) < (k : Int) := by omega
            have b2 : (0 : Int) ≤ (j : Int) + 1 := by omega
            have b3 : (j : Int) + 1 ≤ (k : Int) := by omega
            have b4 : (j : Int) + 1 ≤ (cap : Int) := by omega
            by_cases hgt : keyLt s t = true
            · have HG := Lib.hid hgt
              have g1 : Op.bytesLess t.toList s.toList = false := keyLt_asymm hgt
              have g2 : (t.toList == s.toList) = false := by rw [key_beq]; simp; intro e; subst e; rw [keyLt_irrefl] at hgt; cases hgt
              clear hgt
              go_wp2
              go_quiet (fail)
              go_wp2
              go_roundw
              case rel =>
                refine ⟨j, _, by omega, by go_num, rfl, fun p hp h => ?_⟩
                by_cases e : p = j
                · subst e; rw [← HT.out]; exact HG.out
                · exact HQ.out p hp (by omega)
              case measure => simp [intOf]
            · have hle : le t s := by unfold le; simpa using hgt
              have HLO := Lib.hid (show ∀ p, (hp : p < out.length) → p < j + 1 → le out[p].1 s from fun p hp h => by
                by_cases e : p = j
                · subst e; rw [← HT.out]; exact hle
                · exact le_trans (List.pairwise_iff_getElem.1 HAS.out p j hp hjl (by omega)) (by rw [← HT.out]; exact hle))
              have hgt' : keyLt s t = false := hle
              have hh : Op.bytesLess t.toList s.toList = true ∨ t = s := by
                cases e : Op.bytesLess t.toList s.toList
                · exact Or.inr (keyLt_tri e hgt')
                · exact Or.inl rfl
              clear hgt hle hgt'
              rcases hh with hh | hh
              · by_cases hkj : k = j + 1
                · subst hkj
                  go_wp2
                  go_quiet (fail)
                  go_wp2
                  have OLD := Lib.hid (fun (W : World) (hW : Ext W1 W) (b : Addr) (hb : (some (⟨q0, 0, none⟩ : Addr)) = some b) => row_head HB.out HCT.out hW (j + 1) (by have := HCL.out; omega) b hb)
                  have OL := Lib.hid (show (flat2 ((out.take ((j + 1))).map plain)).length = ((j + 1)) * 2 from by have := HCL.out; rw [flat2_length]; simp <;> omega)
                  have TWO := Lib.hid (two_da W1 (.string s) (.int .i64 z) 43)
                  have F0 := Lib.hid (show ∀ b : Addr, (some (⟨W1.heap.size + 1, 0, none⟩ : Addr)) = some b → b = ⟨W1.heap.size + 1, 0, none⟩ from fun b h => (Option.some.inj h).symm)
                  go_region_held3 (fun w' => w'.cell? ⟨W1.heap.size, 0, none⟩ = some (.string s) ∧ w'.cell? ⟨W1.heap.size, 1, none⟩ = some (.int .i64 z)) (first | exact K40 | go_keep) (first | (refine step_append_none rfl (.tmp 35) (.tmp 38) 22 rfl 43 i0 Tryz.underlying22 hi _ _ 1 1 _ rfl rfl (Nat.le_refl _) ?_) | (refine step_append_grows rfl (.tmp 33) (.tmp 39) 22 rfl 43 i0 _ 2 24 Tryz.underlying22 hi hz0 hz1 hz2 rfl (by decide) (some ⟨q0, 0, none⟩) ((j + 1)) ((j + 1)) (flat2 ((out.take ((j + 1))).map plain)) rfl ?_ OL.out ?_ ⟨W1.heap.size + 1, 0, none⟩ 1 1 [.string s, .int .i64 z] rfl rfl ?_ ?_ ?_ ?_ ?_ ?_; (· intro h; cases h); (· intro b hb; exact OLD.out _ (by first | exact ext_da _ _ _ _ | exact ext_dda _ _ _ _ _) b hb); (· first | exact TWO.out _ | exact TWO.out (_ + 1)); (· exact two_one _ _ rfl rfl); (· omega); (· unfold maxLen; omega); (· omega); (intro v40 w40 hown40 hgrow40; have K40 := keep_rec (by first | exact two_at _ _ _ _ _ | exact two_at' _ _ _ _ _) (ext_none hgrow40); have R40 := Lib.hid (ins_fin0 (w := w) HE.out hown40 (Ext.trans' (by first | exact ext_da _ _ _ _ | exact ext_dda _ _ _ _ _) (ext_none hgrow40)) (by have := HE.out.size; simp; omega)); clear hown40 hgrow40)))
                  go_wp2
                  go_roundw
                  case rel => exact ⟨(j + 1) + 1, out.take ((j + 1)) ++ [(s, z)], by omega, by go_num, by have := HCL.out; simp <;> omega, ins_perm0 hkl HPM.out HEL.out (by have := HCL.out; omega), ins_pair0 HAS.out HLO.out (by have := HCL.out; omega), R40.out.1, R40.out.2⟩
                  case measure => simp [intOf]; omega
                · have hcj : ¬ cap = j + 1 := by omega
                  go_wp2
                  go_quiet (fail)
                  go_wp2
                  have OLD := Lib.hid (fun (W : World) (hW : Ext W1 W) (b : Addr) (hb : (some (⟨q0, 0, none⟩ : Addr)) = some b) => row_head HB.out HCT.out hW (j + 1) (by have := HCL.out; omega) b hb)
                  have OL := Lib.hid (show (flat2 ((out.take ((j + 1))).map plain)).length = ((j + 1)) * 2 from by have := HCL.out; rw [flat2_length]; simp <;> omega)
                  have TWO := Lib.hid (two_da W1 (.string s) (.int .i64 z) 43)
                  have F0 := Lib.hid (show ∀ b : Addr, (some (⟨W1.heap.size + 1, 0, none⟩ : Addr)) = some b → b = ⟨W1.heap.size + 1, 0, none⟩ from fun b h => (Option.some.inj h).symm)
                  have DROP := Lib.hid (show ∀ W : World, Ext W1 W → ∀ i u, (flat2 ((out.drop ((j + 1))).map plain))[i]? = some u → W.cell? ((⟨q0, (j + 1) * 2, none⟩ : Addr).add i) = some u from fun W hW i u hu => by have := row_part HB.out HCT.out hW ((j + 1)) (by have := HCL.out; omega) i u hu; simpa using this)
                  have DL := Lib.hid (show (flat2 ((out.drop ((j + 1))).map plain)).length = (k - (j + 1)) * 2 from by rw [flat2_length]; simp [HCL.out])
                  have ONE := Lib.hid (show ∀ u ∈ flat2 ((out.drop ((j + 1))).map plain), u.oneCell' = true from plain_one' _)
                  have ONE2 := Lib.hid (show ∀ u ∈ [Value.string s, Value.int .i64 z] ++ flat2 ((out.drop ((j + 1))).map plain), u.oneCell' = true from fun u hu => (List.mem_append.1 hu).elim (two_one _ _ rfl rfl u) (plain_one' _ u))
                  go_region_held3 (fun w' => w'.cell? ⟨W1.heap.size, 0, none⟩ = some (.string s) ∧ w'.cell? ⟨W1.heap.size, 1, none⟩ = some (.int .i64 z)) (first | exact K40 | exact K39 | go_keep) (first | (refine step_append_grows rfl (.tmp 35) (.tmp 38) 22 rfl 43 i0 _ 2 24 Tryz.underlying22 hi hz0 hz1 hz2 rfl (by decide) (some ⟨W1.heap.size + 1, 0, none⟩) 1 1 [.string s, .int .i64 z] rfl ?_ rfl ?_ ⟨q0, (j + 1) * 2, none⟩ (k - (j + 1)) (cap - (j + 1)) (flat2 ((out.drop ((j + 1))).map plain)) rfl DL.out ?_ ONE.out ?_ ?_ ?_ ?_; (· intro h; cases h); (· intro b hb; obtain rfl := F0.out b hb; first | exact TWO.out _ | exact TWO.out (_ + 1)); (· exact DROP.out _ (by first | exact ext_da _ _ _ _ | exact ext_dda _ _ _ _ _)); (· omega); (· unfold maxLen; omega); (· omega); (intro v39 w39 hown39 hgrow39; obtain ⟨g39, c39, rfl, hb39, hlt39⟩ := hown39.form (by omega); have E39 := Lib.hid (show Ext W1 w39 from Ext.trans' (by first | exact ext_da _ _ _ _ | exact ext_dda _ _ _ _ _) (ext_none hgrow39)); have K39 := keep_rec (by first | exact two_at _ _ _ _ _ | exact two_at' _ _ _ _ _) (ext_none hgrow39); have O39 := Lib.hid hown39; clear hown39 hgrow39)) | (refine step_append_grows rfl (.tmp 33) (.tmp 39) 22 rfl 43 i0 _ 2 24 Tryz.underlying22 hi hz0 hz1 hz2 rfl (by decide) (some ⟨q0, 0, none⟩) ((j + 1)) ((j + 1)) (flat2 ((out.take ((j + 1))).map plain)) rfl ?_ OL.out ?_ ⟨g39, 0, none⟩ (1 + (k - (j + 1))) c39 ([.string s, .int .i64 z] ++ flat2 ((out.drop ((j + 1))).map plain)) rfl O39.out.1 (O39.out.cells rfl) ONE2.out ?_ ?_ ?_ ?_; (· intro h; cases h); (· intro b hb; exact OLD.out _ E39.out b hb); (· omega); (· unfold maxLen; omega); (· omega); (intro v40 w40 hown40 hgrow40; have K40 := keep_rec K39 (ext_none hgrow40); have R40 := Lib.hid (And.intro hown40 (E39.out.trans' (ext_none hgrow40))); clear hown40 hgrow40)))
                  have R41 := Lib.hid (ins_fin (w := w) HE.out R40.out.1 R40.out.2 (by have := HE.out.size; have := E39.out.size; omega))
                  go_wp2
                  go_roundw
                  case rel => exact ⟨k + 1, out.take ((j + 1)) ++ (s, z) :: out.drop ((j + 1)), by omega, by go_num, by have := HCL.out; simp <;> omega, ins_perm hkl HPM.out HEL.out ((j + 1)), ins_pair HAS.out HQ.out HLO.out (by have := HCL.out; omega), R41.out.1, R41.out.2⟩
                  case measure => simp [intOf]; omega
              · replace hh := hh.symm
                subst hh
                by_cases hkj : k = j + 1
                · subst hkj
                  go_wp2
                  go_quiet (fail)
                  go_wp2
                  have OLD := Lib.hid (fun (W : World) (hW : Ext W1 W) (b : Addr) (hb : (some (⟨q0, 0, none⟩ : Addr)) = some b) => row_head HB.out HCT.out hW (j + 1) (by have := HCL.out; omega) b hb)
                  have OL := Lib.hid (show (flat2 ((out.take ((j + 1))).map plain)).length = ((j + 1)) * 2 from by have := HCL.out; rw [flat2_length]; simp <;> omega)
                  have TWO := Lib.hid (two_da W1 (.string s) (.int .i64 z) 43)
                  have F0 := Lib.hid (show ∀ b : Addr, (some (⟨W1.heap.size + 1, 0, none⟩ : Addr)) = some b → b = ⟨W1.heap.size + 1, 0, none⟩ from fun b h => (Option.some.inj h).symm)
                  go_region_held3 (fun w' => w'.cell? ⟨W1.heap.size, 0, none⟩ = some (.string s) ∧ w'.cell? ⟨W1.heap.size, 1, none⟩ = some (.int .i64 z)) (first | exact K40 | go_keep) (first | (refine step_append_none rfl (.tmp 35) (.tmp 38) 22 rfl 43 i0 Tryz.underlying22 hi _ _ 1 1 _ rfl rfl (Nat.le_refl _) ?_) | (refine step_append_grows rfl (.tmp 33) (.tmp 39) 22 rfl 43 i0 _ 2 24 Tryz.underlying22 hi hz0 hz1 hz2 rfl (by decide) (some ⟨q0, 0, none⟩) ((j + 1)) ((j + 1)) (flat2 ((out.take ((j + 1))).map plain)) rfl ?_ OL.out ?_ ⟨W1.heap.size + 1, 0, none⟩ 1 1 [.string s, .int .i64 z] rfl rfl ?_ ?_ ?_ ?_ ?_ ?_; (· intro h; cases h); (· intro b hb; exact OLD.out _ (by first | exact ext_da _ _ _ _ | exact ext_dda _ _ _ _ _) b hb); (· first | exact TWO.out _ | exact TWO.out (_ + 1)); (· exact two_one _ _ rfl rfl); (· omega); (· unfold maxLen; omega); (· omega); (intro v40 w40 hown40 hgrow40; have K40 := keep_rec (by first | exact two_at _ _ _ _ _ | exact two_at' _ _ _ _ _) (ext_none hgrow40); have R40 := Lib.hid (ins_fin0 (w := w) HE.out hown40 (Ext.trans' (by first | exact ext_da _ _ _ _ | exact ext_dda _ _ _ _ _) (ext_none hgrow40)) (by have := HE.out.size; simp; omega)); clear hown40 hgrow40)))
                  go_wp2
                  go_roundw
                  case rel => exact ⟨(j + 1) + 1, out.take ((j + 1)) ++ [(s, z)], by omega, by go_num, by have := HCL.out; simp <;> omega, ins_perm0 hkl HPM.out HEL.out (by have := HCL.out; omega), ins_pair0 HAS.out HLO.out (by have := HCL.out; omega), R40.out.1, R40.out.2⟩
                  case measure => simp [intOf]; omega
                · have hcj : ¬ cap = j + 1 := by omega
                  go_wp2
                  go_quiet (fail)
                  go_wp2
                  have OLD := Lib.hid (fun (W : World) (hW : Ext W1 W) (b : Addr) (hb : (some (⟨q0, 0, none⟩ : Addr)) = some b) => row_head HB.out HCT.out hW (j + 1) (by have := HCL.out; omega) b hb)
                  have OL := Lib.hid (show (flat2 ((out.take ((j + 1))).map plain)).length = ((j + 1)) * 2 from by have := HCL.out; rw [flat2_length]; simp <;> omega)
                  have TWO := Lib.hid (two_da W1 (.string s) (.int .i64 z) 43)
                  have F0 := Lib.hid (show ∀ b : Addr, (some (⟨W1.heap.size + 1, 0, none⟩ : Addr)) = some b → b = ⟨W1.heap.size + 1, 0, none⟩ from fun b h => (Option.some.inj h).symm)
                  have DROP := Lib.hid (show ∀ W : World, Ext W1 W → ∀ i u, (flat2 ((out.drop ((j + 1))).map plain))[i]? = some u → W.cell? ((⟨q0, (j + 1) * 2, none⟩ : Addr).add i) = some u from fun W hW i u hu => by have := row_part HB.out HCT.out hW ((j + 1)) (by have := HCL.out; omega) i u hu; simpa using this)
                  have DL := Lib.hid (show (flat2 ((out.drop ((j + 1))).map plain)).length = (k - (j + 1)) * 2 from by rw [flat2_length]; simp [HCL.out])
                  have ONE := Lib.hid (show ∀ u ∈ flat2 ((out.drop ((j + 1))).map plain), u.oneCell' = true from plain_one' _)
                  have ONE2 := Lib.hid (show ∀ u ∈ [Value.string s, Value.int .i64 z] ++ flat2 ((out.drop ((j + 1))).map plain), u.oneCell' = true from fun u hu => (List.mem_append.1 hu).elim (two_one _ _ rfl rfl u) (plain_one' _ u))
                  go_region_held3 (fun w' => w'.cell? ⟨W1.heap.size, 0, none⟩ = some (.string s) ∧ w'.cell? ⟨W1.heap.size, 1, none⟩ = some (.int .i64 z)) (first | exact K40 | exact K39 | go_keep) (first | (refine step_append_grows rfl (.tmp 35) (.tmp 38) 22 rfl 43 i0 _ 2 24 Tryz.underlying22 hi hz0 hz1 hz2 rfl (by decide) (some ⟨W1.heap.size + 1, 0, none⟩) 1 1 [.string s, .int .i64 z] rfl ?_ rfl ?_ ⟨q0, (j + 1) * 2, none⟩ (k - (j + 1)) (cap - (j + 1)) (flat2 ((out.drop ((j + 1))).map plain)) rfl DL.out ?_ ONE.out ?_ ?_ ?_ ?_; (· intro h; cases h); (· intro b hb; obtain rfl := F0.out b hb; first | exact TWO.out _ | exact TWO.out (_ + 1)); (· exact DROP.out _ (by first | exact ext_da _ _ _ _ | exact ext_dda _ _ _ _ _)); (· omega); (· unfold maxLen; omega); (· omega); (intro v39 w39 hown39 hgrow39; obtain ⟨g39, c39, rfl, hb39, hlt39⟩ := hown39.form (by omega); have E39 := Lib.hid (show Ext W1 w39 from Ext.trans' (by first | exact ext_da _ _ _ _ | exact ext_dda _ _ _ _ _) (ext_none hgrow39)); have K39 := keep_rec (by first | exact two_at _ _ _ _ _ | exact two_at' _ _ _ _ _) (ext_none hgrow39); have O39 := Lib.hid hown39; clear hown39 hgrow39)) | (refine step_append_grows rfl (.tmp 33) (.tmp 39) 22 rfl 43 i0 _ 2 24 Tryz.underlying22 hi hz0 hz1 hz2 rfl (by decide) (some ⟨q0, 0, none⟩) ((j + 1)) ((j + 1)) (flat2 ((out.take ((j + 1))).map plain)) rfl ?_ OL.out ?_ ⟨g39, 0, none⟩ (1 + (k - (j + 1))) c39 ([.string s, .int .i64 z] ++ flat2 ((out.drop ((j + 1))).map plain)) rfl O39.out.1 (O39.out.cells rfl) ONE2.out ?_ ?_ ?_ ?_; (· intro h; cases h); (· intro b hb; exact OLD.out _ E39.out b hb); (· omega); (· unfold maxLen; omega); (· omega); (intro v40 w40 hown40 hgrow40; have K40 := keep_rec K39 (ext_none hgrow40); have R40 := Lib.hid (And.intro hown40 (E39.out.trans' (ext_none hgrow40))); clear hown40 hgrow40)))
                  have R41 := Lib.hid (ins_fin (w := w) HE.out R40.out.1 R40.out.2 (by have := HE.out.size; have := E39.out.size; omega))
                  go_wp2
                  go_roundw
                  case rel => exact ⟨k + 1, out.take ((j + 1)) ++ (s, z) :: out.drop ((j + 1)), by omega, by go_num, by have := HCL.out; simp <;> omega, ins_perm hkl HPM.out HEL.out ((j + 1)), ins_pair HAS.out HQ.out HLO.out (by have := HCL.out; omega), R41.out.1, R41.out.2⟩
                  case measure => simp [intOf]; omega
    · obtain rfl : k = n := by omega
      go_wp2
      go_ret
      exact ⟨out, ⟨_, rfl, HO.out, HE.out⟩, by have := HPM.out; rwa [List.take_of_length_le (by rw [HL.out]; exact Nat.le_refl _)] at this, HAS.out⟩
end Go.Proofs.YtagfbefgcijegaaGreatDoor

namespace Go.Proofs.YtagfbefgcijegaaGreatDoor
open Go Go.RowKit

theorem totalP_nil (s : ByteArray) : totalP s [] = 0 := rfl
theorem totalP_cons (s : ByteArray) (x : ByteArray × Int) (l : List (ByteArray × Int)) : totalP s (x :: l) = (if x.1 = s then x.2 else 0) + totalP s l := by
  unfold totalP
  by_cases h : x.1 = s <;> simp [h]
theorem totalP_append (s : ByteArray) (l m : List (ByteArray × Int)) : totalP s (l ++ m) = totalP s l + totalP s m := by
  induction l with
  | nil => simp [totalP_nil]
  | cons x l ih => rw [List.cons_append, totalP_cons, totalP_cons, ih]; omega
theorem totalP_perm (s : ByteArray) {l m : List (ByteArray × Int)} (h : l.Perm m) : totalP s l = totalP s m := by
  induction h with
  | nil => rfl
  | cons x _ ih => rw [totalP_cons, totalP_cons, ih]
  | swap x y l => rw [totalP_cons, totalP_cons, totalP_cons, totalP_cons]; omega
  | trans _ _ h1 h2 => rw [h1, h2]
theorem totalP_none {s : ByteArray} {l : List (ByteArray × Int)} (h : ∀ x ∈ l, x.1 ≠ s) : totalP s l = 0 := by
  induction l with
  | nil => rfl
  | cons x l ih => rw [totalP_cons, if_neg (h x (by simp)), ih (fun y hy => h y (by simp [hy]))]; omega
theorem totalP_bound' (s : ByteArray) {l : List (ByteArray × Int)} {m : Nat} (h : ∀ x ∈ l, x.2.natAbs ≤ m) : (totalP s l).natAbs ≤ l.length * m := by
  induction l with
  | nil => simp [totalP_nil]
  | cons x l ih =>
    have h1 := h x (by simp)
    have h2 := ih (fun y hy => h y (by simp [hy]))
    rw [totalP_cons, List.length_cons, Nat.add_mul]
    split <;> omega
theorem isAdd_perm {l m r : List (ByteArray × Int)} (hp : l.Perm m) (h : IsAdd l r) : IsAdd m r := by
  obtain ⟨ks, h1, h2, rfl⟩ := h
  refine ⟨ks, h1, fun s => (h2 s).trans ⟨?_, ?_⟩, ?_⟩
  · rintro ⟨x, hx, e⟩; exact ⟨x, hp.mem_iff.1 hx, e⟩
  · rintro ⟨x, hx, e⟩; exact ⟨x, hp.mem_iff.2 hx, e⟩
  · unfold coalP; congr 1; funext s; rw [totalP_perm s hp]

theorem totalP_bound (s : ByteArray) {l : List (ByteArray × Int)} (h : ∀ x ∈ l, x.2.natAbs ≤ 1125899906842624) : (totalP s l).natAbs ≤ l.length * 1125899906842624 := totalP_bound' s h
theorem strict_sorted {r : List (ByteArray × Int)} (h : r.Pairwise fun a b => keyLt a.1 b.1 = true) : sortedB (r.map Prod.fst) = true :=
  sortedB_true fun j hj => by
    have := List.pairwise_iff_getElem.1 h j (j + 1) (by simp at hj; omega) (by simpa using hj) (by omega)
    simpa using keyLt_asymm this

/-- What has been summed of a part of the coins. -/
def TotI (p out : List (ByteArray × Int)) : Prop :=
  out.Pairwise (fun a b => keyLt a.1 b.1 = true) ∧ (∀ s, (∃ y ∈ out, y.1 = s) ↔ ∃ x ∈ p, x.1 = s) ∧ ∀ y ∈ out, y.2 = totalP y.1 p
theorem totI_nil : TotI [] [] := ⟨List.Pairwise.nil, fun s => by simp, fun y hy => by simp at hy⟩
theorem totI_new {p out : List (ByteArray × Int)} {c : ByteArray × Int} (h : TotI p out) (hlt : ∀ y ∈ out, keyLt y.1 c.1 = true) : TotI (p ++ [c]) (out ++ [c]) := by
  obtain ⟨h1, h2, h3⟩ := h
  refine ⟨?_, fun s => ?_, fun y hy => ?_⟩
  · rw [List.pairwise_append]
    exact ⟨h1, by simp, fun a ha b hb => by simp at hb; subst hb; exact hlt a ha⟩
  · have := h2 s
    simp only [List.mem_append, List.mem_singleton, or_and_right, exists_or]
    rw [this]
  · rw [List.mem_append, List.mem_singleton] at hy
    rw [totalP_append, totalP_cons, totalP_nil]
    rcases hy with hy | rfl
    · rw [if_neg (fun e => by have := hlt y hy; rw [← e, keyLt_irrefl] at this; cases this), h3 y hy]; omega
    · rw [if_pos rfl, totalP_none (fun x hx e => by
        obtain ⟨y', hy', e'⟩ := (h2 y.1).2 ⟨x, hx, e⟩
        have := hlt y' hy'; rw [e', keyLt_irrefl] at this; cases this)]; omega
theorem totI_more {p ini : List (ByteArray × Int)} {s : ByteArray} {y z : Int} (h : TotI p (ini ++ [(s, y)])) : TotI (p ++ [(s, z)]) (ini ++ [(s, y + z)]) := by
  obtain ⟨h1, h2, h3⟩ := h
  rw [List.pairwise_append] at h1
  refine ⟨?_, fun t => ?_, fun x hx => ?_⟩
  · rw [List.pairwise_append]
    exact ⟨h1.1, by simp, fun a ha b hb => by simp at hb; subst hb; exact h1.2.2 a ha (s, y) (by simp)⟩
  · have := h2 t
    simp only [List.mem_append, List.mem_singleton, or_and_right, exists_or, exists_eq_left] at this ⊢
    rw [this]
    constructor
    · exact Or.inl
    · rintro (h | h)
      · exact h
      · exact this.1 (Or.inr h)
  · rw [List.mem_append, List.mem_singleton] at hx
    rw [totalP_append, totalP_cons, totalP_nil]
    rcases hx with hx | rfl
    · have := h1.2.2 x hx (s, y) (by simp)
      rw [if_neg (fun e => by dsimp at e this; rw [← e, keyLt_irrefl] at this; cases this), h3 x (by simp [hx])]; omega
    · have := h3 (s, y) (by simp)
      dsimp at this ⊢; rw [if_pos rfl, ← this]; omega
/-- The last one's name is not that of the next coin, which is not below: all are below it. -/
theorem totI_lt {p ini : List (ByteArray × Int)} {x c : ByteArray × Int} (h : TotI p (ini ++ [x])) (hp : ∀ y ∈ p, le y.1 c.1) (hne : x.1 ≠ c.1) : ∀ y ∈ ini ++ [x], keyLt y.1 c.1 = true := by
  obtain ⟨h1, h2, _⟩ := h
  obtain ⟨x', hx', e⟩ := (h2 x.1).1 ⟨x, by simp, rfl⟩
  have hlt : keyLt x.1 c.1 = true := key_lt_of_le_ne (e ▸ hp x' hx') hne
  intro y hy
  rw [List.mem_append, List.mem_singleton] at hy
  rcases hy with hy | rfl
  · rw [List.pairwise_append] at h1
    exact keyLt_trans (h1.2.2 y hy x (by simp)) hlt
  · exact hlt
theorem totI_end {l out : List (ByteArray × Int)} (h : TotI l out) : IsAdd l (out.filter fun x => x.2 ≠ 0) := by
  obtain ⟨h1, h2, h3⟩ := h
  refine ⟨out.map Prod.fst, ?_, fun s => ?_, ?_⟩
  · rw [List.pairwise_map]; exact h1
  · rw [← h2 s]; simp
  · unfold coalP
    rw [List.filterMap_map]
    clear h1 h2
    induction out with
    | nil => rfl
    | cons y out ih =>
      have hy := h3 y (by simp)
      rw [List.filter_cons, List.filterMap_cons, ih (fun x hx => h3 x (by simp [hx]))]
      simp only [Function.comp]
      rw [← hy]
      by_cases h0 : y.2 = 0 <;> simp [h0]
theorem totI_bound {p out : List (ByteArray × Int)} (h : TotI p out) (hb : ∀ x ∈ p, x.2.natAbs ≤ 1125899906842624) (hl : p.length ≤ 50) : ∀ y ∈ out, y.2.natAbs ≤ 56294995342131200 := by
  intro y hy
  rw [h.2.2 y hy]
  have := totalP_bound y.1 hb
  omega
theorem totI_len {p out : List (ByteArray × Int)} (h : TotI p out) : out.length ≤ p.length := by
  have h1 : (out.map Prod.fst).length ≤ (p.map Prod.fst).length := List.Nodup.length_le_of_subset (by
    have := h.1
    rw [← List.pairwise_map (f := Prod.fst) (R := fun a b => keyLt a b = true)] at this
    exact this.imp fun {a b} h e => by subst e; rw [keyLt_irrefl] at h; cases h) (fun s hs => by
    obtain ⟨y, hy, e⟩ := List.mem_map.1 hs
    obtain ⟨x, hx, e'⟩ := (h.2.1 s).1 ⟨y, hy, e⟩
    exact List.mem_map.2 ⟨x, hx, e'⟩)
  simpa using h1

/-- In order, without doubles: the sums are the coins themselves that are not 0. -/
theorem isAdd_self {l : List (ByteArray × Int)} (h : l.Pairwise fun a b => keyLt a.1 b.1 = true) : TotI l l := by
  refine ⟨h, fun s => Iff.rfl, fun y hy => ?_⟩
  induction l with
  | nil => simp at hy
  | cons x l ih =>
    rw [List.pairwise_cons] at h
    rw [totalP_cons]
    rw [List.mem_cons] at hy
    rcases hy with rfl | hy
    · rw [if_pos rfl, totalP_none (fun z hz e => by have := h.1 z hz; rw [e, keyLt_irrefl] at this; cases this)]; omega
    · rw [if_neg (fun e => by have := h.1 y hy; rw [e, keyLt_irrefl] at this; cases this), ← ih h.2 hy]; omega

/-- r has the sums of l, in order, none of them 0. -/
def SumsTo (l r : List (ByteArray × Int)) : Prop := r.Pairwise (fun a b => keyLt a.1 b.1 = true) ∧ (∀ y ∈ r, y.2 ≠ 0) ∧ ∀ s, totalP s r = totalP s l
theorem tot_get {r : List (ByteArray × Int)} (h : r.Pairwise fun a b => keyLt a.1 b.1 = true) {y : ByteArray × Int} (hy : y ∈ r) : totalP y.1 r = y.2 := ((isAdd_self h).2.2 y hy).symm
theorem tot_iff {r : List (ByteArray × Int)} (h : r.Pairwise fun a b => keyLt a.1 b.1 = true) (hz : ∀ y ∈ r, y.2 ≠ 0) (s : ByteArray) : totalP s r ≠ 0 ↔ ∃ y ∈ r, y.1 = s := by
  constructor
  · intro hn
    refine Classical.byContradiction fun k => hn (totalP_none fun x hx e => k ⟨x, hx, e⟩)
  · rintro ⟨y, hy, rfl⟩
    rw [tot_get h hy]; exact hz y hy
theorem tot_self {r : List (ByteArray × Int)} (h : r.Pairwise fun a b => keyLt a.1 b.1 = true) : r = (r.map Prod.fst).map fun s => (s, totalP s r) := by
  rw [List.map_map]
  have : ∀ y ∈ r, ((fun s => (s, totalP s r)) ∘ Prod.fst) y = id y := fun y hy => by simp only [Function.comp]; rw [tot_get h hy]; rfl
  rw [List.map_congr_left this, List.map_id]
theorem strict_nodup {ks : List ByteArray} (h : ks.Pairwise fun a b => keyLt a b = true) : ks.Nodup := h.imp fun {a b} h e => by subst e; rw [keyLt_irrefl] at h; cases h
theorem strict_keys {r : List (ByteArray × Int)} (h : r.Pairwise fun a b => keyLt a.1 b.1 = true) : (r.map Prod.fst).Pairwise fun a b => keyLt a b = true := List.pairwise_map.2 h
theorem keys_eq {r r' : List ByteArray} (h : r.Pairwise fun a b => keyLt a b = true) (h' : r'.Pairwise fun a b => keyLt a b = true) (hm : ∀ s, s ∈ r ↔ s ∈ r') : r = r' :=
  asc_unique (key := id) ((List.perm_ext_iff_of_nodup (strict_nodup h) (strict_nodup h')).2 hm) (h.imp fun h => le_of_lt h) h'
theorem totals_unique {r r' : List (ByteArray × Int)} (h : r.Pairwise fun a b => keyLt a.1 b.1 = true) (hz : ∀ y ∈ r, y.2 ≠ 0) (h' : r'.Pairwise fun a b => keyLt a.1 b.1 = true) (hz' : ∀ y ∈ r', y.2 ≠ 0)
    (ht : ∀ s, totalP s r = totalP s r') : r = r' := by
  rw [tot_self h, tot_self h', keys_eq (strict_keys h) (strict_keys h') (fun s => by
    have e1 := tot_iff h hz s
    have e2 := tot_iff h' hz' s
    rw [ht s] at e1
    simp only [List.mem_map]
    exact e1.symm.trans e2)]
  exact List.map_congr_left fun s _ => by rw [ht s]
theorem sums_unique {l l' r r' : List (ByteArray × Int)} (h : SumsTo l r) (h' : SumsTo l' r') (ht : ∀ s, totalP s l = totalP s l') : r = r' :=
  totals_unique h.1 h.2.1 h'.1 h'.2.1 fun s => by rw [h.2.2, h'.2.2, ht]
theorem coalP_cons (k : ByteArray) (ks : List ByteArray) (l : List (ByteArray × Int)) : coalP (k :: ks) l = (if totalP k l = 0 then [] else [(k, totalP k l)]) ++ coalP ks l := by
  unfold coalP
  rw [List.filterMap_cons]
  by_cases h : totalP k l = 0 <;> simp [h]
theorem coalP_mem {ks : List ByteArray} {l : List (ByteArray × Int)} {y : ByteArray × Int} (h : y ∈ coalP ks l) : y.1 ∈ ks ∧ y.2 = totalP y.1 l ∧ y.2 ≠ 0 := by
  unfold coalP at h
  obtain ⟨s, hs, he⟩ := List.mem_filterMap.1 h
  split at he
  · cases he
  · injection he with he; subst he; exact ⟨hs, rfl, by assumption⟩
theorem coalP_total {ks : List ByteArray} (l : List (ByteArray × Int)) (hk : ks.Nodup) (s : ByteArray) : (s ∈ ks → totalP s (coalP ks l) = totalP s l) ∧ (s ∉ ks → totalP s (coalP ks l) = 0) := by
  induction ks with
  | nil => exact ⟨fun h => absurd h (by simp), fun _ => rfl⟩
  | cons k ks ih =>
    rw [List.nodup_cons] at hk
    obtain ⟨i1, i2⟩ := ih hk.2
    rw [coalP_cons, totalP_append]
    by_cases e : s = k
    · subst e
      refine ⟨fun _ => ?_, fun h => absurd (by simp) h⟩
      rw [i2 hk.1]
      by_cases h0 : totalP s l = 0
      · rw [if_pos h0, totalP_nil, h0]; rfl
      · rw [if_neg h0, totalP_cons, if_pos rfl, totalP_nil]; omega
    · have h1 : totalP s (if totalP k l = 0 then [] else [(k, totalP k l)]) = 0 := by
        split
        · rfl
        · rw [totalP_cons, if_neg (fun h => e h.symm), totalP_nil]; rfl
      rw [h1]
      refine ⟨fun h => ?_, fun h => ?_⟩
      · rw [List.mem_cons] at h
        rw [i1 (h.resolve_left e)]; omega
      · rw [List.mem_cons] at h
        rw [i2 (fun k => h (Or.inr k))]; rfl
theorem isAdd_sums {l r : List (ByteArray × Int)} (h : IsAdd l r) : SumsTo l r := by
  obtain ⟨ks, h1, h2, rfl⟩ := h
  refine ⟨?_, fun y hy => (coalP_mem hy).2.2, fun s => ?_⟩
  · clear h2
    induction ks with
    | nil => exact List.Pairwise.nil
    | cons k ks ih =>
      rw [List.pairwise_cons] at h1
      rw [coalP_cons, List.pairwise_append]
      refine ⟨by split <;> simp, ih h1.2, fun a ha b hb => ?_⟩
      have hb' := (coalP_mem hb).1
      split at ha
      · simp at ha
      · simp at ha; subst ha; exact h1.1 _ hb'
  · by_cases hs : s ∈ ks
    · exact (coalP_total l (strict_nodup h1) s).1 hs
    · rw [(coalP_total l (strict_nodup h1) s).2 hs, totalP_none fun x hx e => hs ((h2 s).2 ⟨x, hx, e⟩)]
theorem isAdd_len {l r : List (ByteArray × Int)} (h : IsAdd l r) : r.length ≤ l.length := by
  obtain ⟨ks, h1, h2, rfl⟩ := h
  have e1 : (coalP ks l).length ≤ ks.length := List.length_filterMap_le _ _
  have e2 : ks.length ≤ (l.map Prod.fst).length := List.Nodup.length_le_of_subset (strict_nodup h1) (fun s hs => by
    obtain ⟨x, hx, e⟩ := (h2 s).1 hs
    exact List.mem_map.2 ⟨x, hx, e⟩)
  simp at e2; omega
theorem isAdd_size {l r : List (ByteArray × Int)} {m : Nat} (h : IsAdd l r) (hs : ∀ x ∈ l, x.1.size ≤ m) : ∀ y ∈ r, y.1.size ≤ m := by
  obtain ⟨ks, h1, h2, rfl⟩ := h
  intro y hy
  obtain ⟨x, hx, e⟩ := (h2 y.1).1 (coalP_mem hy).1
  rw [← e]; exact hs x hx
theorem isAdd_bound {l r : List (ByteArray × Int)} {m : Nat} (h : IsAdd l r) (hb : ∀ x ∈ l, x.2.natAbs ≤ m) : ∀ y ∈ r, y.2.natAbs ≤ l.length * m := by
  obtain ⟨ks, h1, h2, rfl⟩ := h
  intro y hy
  rw [(coalP_mem hy).2.1]
  exact totalP_bound' y.1 hb
theorem isAdd_sorted {l r : List (ByteArray × Int)} (h : IsAdd l r) : sortedB (r.map Prod.fst) = true := strict_sorted (isAdd_sums h).1
end Go.Proofs.YtagfbefgcijegaaGreatDoor
