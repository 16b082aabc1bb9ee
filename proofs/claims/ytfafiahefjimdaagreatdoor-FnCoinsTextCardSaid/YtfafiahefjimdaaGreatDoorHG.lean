/-
  The contract of the laws' sumAwake: it returns true.
  Contracts of the laws' sizes, and of the reference's IsSumList.
  Contracts of the reference's SumSame and SumWithout.
  What the laws' walks share: lists handed back read as arguments; what the reference's guards tell.
  The contract of Coins.Find (a binary search that calls itself).
  The contract of Coins.Validate: the first thing that is wrong with coins as a set.
  The contracts of Coins.IsZero, IsAllPositive, IsAnyNegative, Empty, IsValid.
  The contract of impl.SortOf, up to 12 coins.
  The contracts of Coins.Equal and impl.EqualOf.
  The contract of the reference's SumSorted, and of IsSumOnce.
-/
import Derived.Test.YtfafiahefjimdaaGreatDoorGY
import Derived.Test.YtfafiahefjimdaaGreatDoorGE
import Derived.Test.YtfafiahefjimdaaGreatDoorGC
import Derived.BigQuiet
import Derived.Test.YtfafiahefjimdaaGreatDoorGB
import Derived.Deep.RegionLawGrows
import Derived.Deep.RegionHeld3
namespace Go.Proofs.YtfafiahefjimdaaGreatDoor
open Go Go.RowKit Go.Maps

abbrev kAAA : ByteArray := ⟨#[97, 97, 97]⟩
abbrev kBBB : ByteArray := ⟨#[98, 98, 98]⟩
theorem awakeAdd : IsAdd ([(kAAA, 2)] ++ [(kBBB, 3)]) [(kAAA, 2), (kBBB, 3)] :=
  ⟨[kAAA, kBBB], by simp [keyLt]; decide, fun s => by simp; exact ⟨fun h => h.imp Eq.symm Eq.symm, fun h => h.imp Eq.symm Eq.symm⟩, by
    have e1 : decide (kBBB = kAAA) = false := by decide
    have e2 : decide (kAAA = kBBB) = false := by decide
    simp [coalP, totalP]⟩
theorem plain_two {w : World} {base : Nat} {E : TypeId} {v : Value} {x y : ByteArray × Int} (h : PlainOwn w base E v [x, y]) :
    ∃ g c, v = .slice (some ⟨g, 0, none⟩) 2 c ∧ w.cell? ⟨g, 2, none⟩ = some (.string y.1) ∧ w.cell? ⟨g, 3, none⟩ = some (.int .i64 y.2) := by
  rcases h.2 with ⟨_, h0⟩ | ⟨g, cap, cur, hv, _, hb, _, _, _, ht⟩
  · simp at h0
  · refine ⟨g, cap, hv, ?_, ?_⟩
    all_goals
      have hk : Blk w g E cur.toList := by unfold Blk; simpa using hb
      rw [hk.cell]
      simp [flat2, plain] at ht
    · have := congrArg (fun l => l[2]?) ht; simpa [List.getElem?_take] using this
    · have := congrArg (fun l => l[3]?) ht; simpa [List.getElem?_take] using this
theorem plain_one {W : World} {b : Nat} {s : ByteArray} {z : Int} (h0 : W.cell? ⟨b, 0, none⟩ = some (.string s)) (h1 : W.cell? ⟨b, 1, none⟩ = some (.int .i64 z)) : PlainAt W (some ⟨b, 0, none⟩) [(s, z)] := by
  intro _
  refine ⟨b, 0, rfl, fun j hj => ?_⟩
  obtain rfl : j = 0 := by simp at hj; omega
  exact ⟨by simpa [plain] using h0, by simpa [plain] using h1⟩

set_option maxRecDepth 100000 in
set_option maxHeartbeats 2000000 in
theorem sumAwake (w : World) : Calls Tryz.prog 51 #[] w (RetE (.bool true) w) := by
  have hA : PlainAt ((w.alloc (.cells #[.string kAAA, .int .i64 2] 55)).alloc (.cells #[.string kBBB, .int .i64 3] 55)) (some ⟨w.heap.size, 0, none⟩) [(kAAA, 2)] :=
    plain_one (cell_old _ (by rw [cell_new]; rfl)) (cell_old _ (by rw [cell_new]; rfl))
  have hs : (w.alloc (.cells #[.string kAAA, .int .i64 2] 55)).heap.size = w.heap.size + 1 := by simp
  have hB : PlainAt ((w.alloc (.cells #[.string kAAA, .int .i64 2] 55)).alloc (.cells #[.string kBBB, .int .i64 3] 55)) (some ⟨w.heap.size + 1, 0, none⟩) [(kBBB, 3)] := by
    rw [← hs]; exact plain_one (by rw [cell_new]; rfl) (by rw [cell_new]; rfl)
  have H := Lib.hid ((iAddOf _ _ 1 1 1 1 [(kAAA, 2)] [(kBBB, 3)] _ rfl rfl (by omega) hA hB (by intro x hx; simp at hx; rcases hx with rfl | rfl <;> decide) (by intro x hx; simp at hx; rcases hx with rfl | rfl <;> decide)).mono (by
    intro e w' h
    unfold RetAddOf at h
    rw [if_pos ⟨rfl, rfl⟩] at h
    obtain ⟨v, r, he, hr, ho, hE⟩ := h
    rw [isAdd_unique hr awakeAdd] at ho
    exact (show ∃ v, e = .returned (.tuple #[v, .bool true]) ∧ PlainOwn w' _ 55 v [(kAAA, 2), (kBBB, 3)] ∧ Ext _ w' from ⟨v, he, ho, hE⟩)))
  clear hA hB hs
  have hD := Lib.hid (fun W : World => iDenomErr ⟨#[97]⟩ W (by decide))
  have hw : denomWord ⟨#[97]⟩ = invDenom := by unfold denomWord; rw [denomB_short (by decide)]; rfl
  rw [hw] at hD
  clear hw
  go_enter Tryz.func51, Tryz.ntmps51
  go_wp2_with (first | (go_at_call 109; (with_reducible refine H.out.mono ?_); rintro e w' ⟨v, rfl, ho, hE⟩; obtain ⟨g, c, rfl, hc0, hc1⟩ := plain_two ho; have HE := Lib.hid hE; clear ho hE) | (go_at_call 110; (with_reducible refine (hD.out _).mono ?_); rintro e w2 ⟨rfl, hE2⟩; have HE2 := Lib.hid hE2; clear hE2))
  go_ret
  exact ⟨rfl, ((ext2 w _ _).trans' HE.out).trans' HE2.out⟩
end Go.Proofs.YtfafiahefjimdaaGreatDoor

namespace Go.Proofs.YtfafiahefjimdaaGreatDoor
open Go Go.RowKit

/-- A bool handed back that, if true, tells this. -/
def RetIf (p : Prop) (w : World) (e : Ending) (w' : World) : Prop := ∃ r : Bool, e = .returned (.bool r) ∧ (r = true → p) ∧ Ext w w'

set_option maxRecDepth 100000 in
theorem zFits1 (s : ByteArray) (z : Int) (w : World) : Calls Tryz.prog 46 #[.agg #[.string s, .int .i64 z]] w (RetE (.bool (decide (s.size ≤ 2147483647))) w) := by
  by_cases h1 : 2147483647 < s.size
  · have d1 : decide (2147483647 < s.size) = true := by simpa using h1
    have F := Lib.hid (show decide (s.size ≤ 2147483647) = false by simp; omega)
    go_enter Tryz.func46, Tryz.ntmps46
    go_wp2
    go_ret
    rw [F.out]; exact ⟨rfl, ext1 _ _⟩
  · have d1 : decide (2147483647 < s.size) = false := by simpa using h1
    have F := Lib.hid (show decide (s.size ≤ 2147483647) = true by simp; omega)
    go_enter Tryz.func46, Tryz.ntmps46
    go_wp2
    go_ret
    rw [F.out]; exact ⟨rfl, ext1 _ _⟩

/-- What zzFits2 tells. -/
def Fits (n : Nat) (l : List (ByteArray × Int)) : Prop := n ≤ 2147483647 ∧ ∀ x ∈ l, x.1.size ≤ 2147483647

set_option maxRecDepth 100000 in
set_option maxHeartbeats 1000000 in
theorem zFits2 (A : Option Addr) (n c : Nat) (l : List (ByteArray × Int)) (w : World) (hl : l.length = n) (hn : n ≤ 9223372036854775807) (h : PlainAt w A l) :
    Calls Tryz.prog 52 #[.slice A n c] w (RetIf (Fits n l) w) := by
  have HL := Lib.hid hl; have HP := Lib.hid h
  clear hl h
  by_cases h1 : 2147483647 < n
  · have d1 : decide ((2147483647 : Int) < (n : Int)) = true := by simp; omega
    go_enter Tryz.func52, Tryz.ntmps52
    go_wp2
    go_ret
    exact ⟨false, rfl, (fun h => by cases h), Ext.refl _⟩
  · have d1 : decide ((2147483647 : Int) < (n : Int)) = false := by simp; omega
    go_enter Tryz.func52, Tryz.ntmps52
    go_wp2
    go_loopw [10] (fun i wr => ∃ k : Nat, k ≤ n ∧ i = .int .i64 k ∧ (∀ x ∈ l.take k, x.1.size ≤ 2147483647) ∧ Ext w wr) (fun i _ => n - (intOf i).toNat)
    case atStart => exact ⟨0, Nat.zero_le _, rfl, (fun x hx => by simp at hx), Ext.refl _⟩
    case round =>
      obtain ⟨k, hk, rfl, hq, hE⟩ := hrel
      have HQ := Lib.hid hq; have HE := Lib.hid hE
      clear hq hE
      by_cases hlt : k < n
      · have hkl : k < l.length := by rw [HL.out]; exact hlt
        obtain ⟨s, hs⟩ : ∃ s, s = l[k].1 := ⟨_, rfl⟩
        obtain ⟨z, hzz⟩ : ∃ z, z = l[k].2 := ⟨_, rfl⟩
        obtain ⟨g, o, hA, hc⟩ := HP.out (by intro e; have := congrArg List.length e; simp at this; rw [this] at hkl; simp at hkl)
        subst hA
        have hck := hc k (by simpa using hkl)
        have cs0 : wr.cell? ⟨g, o + k * 2, none⟩ = some (.string s) := HE.out.cell' (by rw [hck.1, hs]; simp [plain])
        have cs1 : wr.cell? ⟨g, o + k * 2 + 1, none⟩ = some (.int .i64 z) := HE.out.cell' (by rw [hck.2, hzz]; simp [plain])
        have HS := Lib.hid hs; clear hs hzz hck hc
        obtain ⟨r, hr⟩ : ∃ r, r = decide (s.size ≤ 2147483647) := ⟨_, rfl⟩
        have HF := Lib.hid (fun W : World => zFits1 s z W)
        rw [← hr] at HF
        have HR := Lib.hid hr; clear hr
        cases r
        · go_wp2_with (first | (go_at_call 46; (with_reducible refine (HF.out _).mono ?_); rintro e w1 ⟨rfl, hE1⟩; have HE1 := Lib.hid ((ext1 _ _).trans' hE1); clear hE1))
          go_ret
          exact ⟨false, rfl, (fun h => by cases h), HE.out.trans' HE1.out⟩
        · go_wp2_with (first | (go_at_call 46; (with_reducible refine (HF.out _).mono ?_); rintro e w1 ⟨rfl, hE1⟩; have HE1 := Lib.hid ((ext1 _ _).trans' hE1); clear hE1))
          go_roundw
          case rel =>
            refine ⟨k + 1, by omega, by go_num, fun x hx => ?_, HE.out.trans' HE1.out⟩
            rw [List.take_succ_eq_append_getElem hkl, List.mem_append, List.mem_singleton] at hx
            rcases hx with hx | rfl
            · exact HQ.out x hx
            · rw [← HS.out]; simpa using HR.out.symm
          case measure => simp [intOf]; omega
      · obtain rfl : k = n := by omega
        go_wp2
        go_ret
        exact ⟨true, rfl, (fun _ => ⟨by omega, fun x hx => HQ.out x (by rw [List.take_of_length_le (by rw [HL.out]; exact Nat.le_refl _)]; exact hx)⟩), HE.out⟩

/-- At most 8 coins, of denominations, with amounts of at most 2^40 from 0. -/
def listB (l : List (ByteArray × Int)) : Bool := decide (l.length ≤ 8 ∧ ∀ x ∈ l, denomB x.1 = true ∧ -1099511627776 ≤ x.2 ∧ x.2 ≤ 1099511627776)
theorem listB_false {l : List (ByteArray × Int)} {x : ByteArray × Int} (hx : x ∈ l) (h : ¬ (denomB x.1 = true ∧ -1099511627776 ≤ x.2 ∧ x.2 ≤ 1099511627776)) : listB l = false := by
  unfold listB; rw [decide_eq_false_iff_not]; rintro ⟨_, k⟩; exact h (k x hx)

set_option maxRecDepth 100000 in
set_option maxHeartbeats 1000000 in
theorem sIsSumList (A : Option Addr) (n c : Nat) (l : List (ByteArray × Int)) (w : World) (hl : l.length = n) (hf : Fits n l) (h : PlainAt w A l) :
    Calls Tryz.prog 53 #[.slice A n c] w (RetE (.bool (listB l)) w) := by
  obtain ⟨hn, hsz⟩ := hf
  have HL := Lib.hid hl; have HP := Lib.hid h; have HSZ := Lib.hid hsz
  clear hl h hsz
  by_cases h1 : 8 < n
  · have d1 : decide ((8 : Int) < (n : Int)) = true := by simp; omega
    have F := Lib.hid (show listB l = false by unfold listB; rw [decide_eq_false_iff_not]; rintro ⟨k, _⟩; have := HL.out; omega)
    go_enter Tryz.func53, Tryz.ntmps53
    go_wp2
    go_ret
    rw [F.out]; exact ⟨rfl, Ext.refl _⟩
  · have d1 : decide ((8 : Int) < (n : Int)) = false := by simp; omega
    go_enter Tryz.func53, Tryz.ntmps53
    go_wp2
    go_loopw [10] (fun i wr => ∃ k : Nat, k ≤ n ∧ i = .int .i64 k ∧ (∀ x ∈ l.take k, denomB x.1 = true ∧ -1099511627776 ≤ x.2 ∧ x.2 ≤ 1099511627776) ∧ Ext w wr) (fun i _ => n - (intOf i).toNat)
    case atStart => exact ⟨0, Nat.zero_le _, rfl, (fun x hx => by simp at hx), Ext.refl _⟩
    case round =>
      obtain ⟨k, hk, rfl, hq, hE⟩ := hrel
      have HQ := Lib.hid hq; have HE := Lib.hid hE
      clear hq hE
      by_cases hlt : k < n
      · have hkl : k < l.length := by rw [HL.out]; exact hlt
        obtain ⟨s, hs⟩ : ∃ s, s = l[k].1 := ⟨_, rfl⟩
        obtain ⟨z, hzz⟩ : ∃ z, z = l[k].2 := ⟨_, rfl⟩
        obtain ⟨g, o, hA, hc⟩ := HP.out (by intro e; have := congrArg List.length e; simp at this; rw [this] at hkl; simp at hkl)
        subst hA
        have hck := hc k (by simpa using hkl)
        have cs0 : wr.cell? ⟨g, o + k * 2, none⟩ = some (.string s) := HE.out.cell' (by rw [hck.1, hs]; simp [plain])
        have cs1 : wr.cell? ⟨g, o + k * 2 + 1, none⟩ = some (.int .i64 z) := HE.out.cell' (by rw [hck.2, hzz]; simp [plain])
        have HD := Lib.hid (fun W : World => sDenom s W (by rw [hs]; have := HSZ.out _ (List.getElem_mem hkl); omega))
        have HS := Lib.hid hs; have HZ := Lib.hid hzz; clear hs hzz hck hc
        have HM := Lib.hid (List.getElem_mem hkl)
        obtain ⟨r, hr⟩ : ∃ r, r = denomB s := ⟨_, rfl⟩
        rw [← hr] at HD
        have HR := Lib.hid hr; clear hr
        have bad := Lib.hid (fun (hb : ¬ (r = true ∧ -1099511627776 ≤ z ∧ z ≤ 1099511627776)) => listB_false HM.out (by rw [← HS.out, ← HZ.out, ← HR.out]; exact hb))
        cases r
        · go_wp2_with (first | (go_at_call 47; (with_reducible refine (HD.out _).mono ?_); rintro e w1 ⟨rfl, rfl⟩))
          go_ret
          rw [bad.out (by simp)]; exact ⟨rfl, HE.out.trans' (ext1 _ _)⟩
        · by_cases hz1 : z < -1099511627776
          · go_wp2_with (first | (go_at_call 47; (with_reducible refine (HD.out _).mono ?_); rintro e w1 ⟨rfl, rfl⟩))
            go_ret
            rw [bad.out (by omega)]; exact ⟨rfl, HE.out.trans' (ext1 _ _)⟩
          · by_cases hz2 : 1099511627776 < z
            · go_wp2_with (first | (go_at_call 47; (with_reducible refine (HD.out _).mono ?_); rintro e w1 ⟨rfl, rfl⟩))
              go_ret
              rw [bad.out (by omega)]; exact ⟨rfl, HE.out.trans' (ext1 _ _)⟩
            · go_wp2_with (first | (go_at_call 47; (with_reducible refine (HD.out _).mono ?_); rintro e w1 ⟨rfl, rfl⟩))
              go_roundw
              case rel =>
                refine ⟨k + 1, by omega, by go_num, fun x hx => ?_, HE.out.trans' (ext1 _ _)⟩
                rw [List.take_succ_eq_append_getElem hkl, List.mem_append, List.mem_singleton] at hx
                rcases hx with hx | rfl
                · exact HQ.out x hx
                · rw [← HS.out, ← HZ.out, ← HR.out]; exact ⟨rfl, by omega, by omega⟩
              case measure => simp [intOf]; omega
      · obtain rfl : k = n := by omega
        have F := Lib.hid (show listB l = true by
          unfold listB; rw [decide_eq_true_iff]
          exact ⟨by rw [HL.out]; omega, fun x hx => HQ.out x (by rw [List.take_of_length_le (by rw [HL.out]; exact Nat.le_refl _)]; exact hx)⟩)
        go_wp2
        go_ret
        rw [F.out]; exact ⟨rfl, HE.out⟩
end Go.Proofs.YtfafiahefjimdaaGreatDoor

namespace Go.Proofs.YtfafiahefjimdaaGreatDoor
open Go Go.RowKit

theorem take_eq_false {l l' : List (ByteArray × Int)} {k : Nat} (h : k < l.length) (h' : k < l'.length) (hne : l[k] ≠ l'[k]) : decide (l = l') = false := by
  rw [decide_eq_false_iff_not]; rintro rfl; exact hne rfl
theorem toList_ne {s t : ByteArray} (h : s ≠ t) : ¬ s.toList = t.toList := fun e => h (key_ext e)

end Go.Proofs.YtfafiahefjimdaaGreatDoor

namespace Go.Proofs.YtfafiahefjimdaaGreatDoor
open Go Go.RowKit

theorem pown_at {w : World} {base : Nat} {E : TypeId} {v : Value} {l : List (ByteArray × Int)} (h : PlainOwn w base E v l) : ∃ A c, v = .slice A l.length c ∧ PlainAt w A l := by
  obtain ⟨A, c, rfl⟩ := own_slice h
  exact ⟨A, c, rfl, recAt_of_owns (ps := l.map plain) (by simp) h⟩
theorem pown_len {w : World} {base n : Nat} {E : TypeId} {v : Value} {l : List (ByteArray × Int)} (h : PlainOwn w base E v l) (hl : l.length = n) : ∃ A c, v = .slice A n c ∧ PlainAt w A l := by
  subst hl; exact pown_at h
theorem ext_q {w w' : World} (h : ∃ n, w' = w.drewN n) : Ext w w' := by obtain ⟨n, rfl⟩ := h; exact Ext.drewN' _ _
theorem listB_len {l : List (ByteArray × Int)} (h : listB l = true) : l.length ≤ 8 := by
  unfold listB at h; rw [decide_eq_true_iff] at h; exact h.1
theorem listB_mem {l : List (ByteArray × Int)} (h : listB l = true) : ∀ x ∈ l, denomB x.1 = true ∧ -1099511627776 ≤ x.2 ∧ x.2 ≤ 1099511627776 := by
  unfold listB at h; rw [decide_eq_true_iff] at h; exact h.2
theorem listB_max {l : List (ByteArray × Int)} (h : listB l = true) : ∀ x ∈ l, -maxI ≤ x.2 ∧ x.2 ≤ maxI := by
  intro x hx; have := listB_mem h x hx; unfold maxI; omega
theorem listB_abs {l : List (ByteArray × Int)} (h : listB l = true) : ∀ x ∈ l, x.2.natAbs ≤ 1125899906842624 := by
  intro x hx; have := listB_mem h x hx; omega
theorem fits_size {n : Nat} {l : List (ByteArray × Int)} (h : Fits n l) : ∀ x ∈ l, x.1.size ≤ maxLen := by
  intro x hx; have := h.2 x hx; unfold maxLen; omega
theorem both {α : Type} {Q : α → Prop} {l m : List α} (h : ∀ x ∈ l, Q x) (k : ∀ x ∈ m, Q x) : ∀ x ∈ l ++ m, Q x := fun x hx => (List.mem_append.1 hx).elim (h x) (k x)
/-- Each name stands once. -/
def onceB (l : List (ByteArray × Int)) : Bool := decide (l.Pairwise fun a b => a.1 ≠ b.1)
theorem once_strict {r : List (ByteArray × Int)} (h : r.Pairwise fun a b => le a.1 b.1) (k : r.Pairwise fun a b => a.1 ≠ b.1) : r.Pairwise fun a b => keyLt a.1 b.1 = true :=
  (h.and k).imp fun ⟨h1, h2⟩ => key_lt_of_le_ne h1 h2
theorem sorted_same {l r r' : List (ByteArray × Int)} (h1 : r.Perm l) (h2 : r.Pairwise fun a b => le a.1 b.1) (h3 : r'.Perm l) (h4 : r'.Pairwise fun a b => le a.1 b.1) (ho : onceB l = true) : r = r' := by
  unfold onceB at ho; rw [decide_eq_true_iff] at ho
  exact asc_unique (key := Prod.fst) (h1.trans h3.symm) h2 (once_strict h4 (h3.symm.pairwise ho fun h e => h e.symm))
end Go.Proofs.YtfafiahefjimdaaGreatDoor

namespace Go.Proofs.YtfafiahefjimdaaGreatDoor
open Go Go.RowKit

theorem recAt_take {w : World} {A : Option Addr} {ps : List (Value × Value)} (h : RecAt w A ps) (m : Nat) : RecAt w A (ps.take m) := by
  intro hn
  obtain ⟨g, o, ha, hc⟩ := h (by intro e; rw [e] at hn; simp at hn)
  refine ⟨g, o, ha, fun j hj => ?_⟩
  rw [List.length_take] at hj
  have := hc j (by omega)
  rw [List.getElem_take]; exact this
theorem recAt_drop {w : World} {g o : Nat} {ps : List (Value × Value)} (h : RecAt w (some ⟨g, o, none⟩) ps) (m : Nat) : RecAt w (some ⟨g, o + m * 2, none⟩) (ps.drop m) := by
  intro hn
  have hl : m < ps.length := by
    rcases Nat.lt_or_ge m ps.length with h | h
    · exact h
    · rw [List.drop_of_length_le h] at hn; exact absurd rfl hn
  obtain ⟨g', o', ha, hc⟩ := h (by intro e; rw [e] at hl; simp at hl)
  injection ha with ha; injection ha with h1 h2
  subst h1; subst h2
  refine ⟨g, o + m * 2, rfl, fun j hj => ?_⟩
  simp at hj
  have := hc (m + j) (by omega)
  rw [List.getElem_drop]
  rw [show o + m * 2 + j * 2 = o + (m + j) * 2 by omega]; exact this
theorem coinsAt_take {w : World} {A : Option Addr} {l : List Co} (h : CoinsAt w A l) (m : Nat) : CoinsAt w A (l.take m) :=
  ⟨by rw [List.map_take]; exact recAt_take h.1 m, fun c hc => h.2 c (List.mem_of_mem_take hc)⟩
theorem coinsAt_drop {w : World} {g o : Nat} {l : List Co} (h : CoinsAt w (some ⟨g, o, none⟩) l) (m : Nat) : CoinsAt w (some ⟨g, o + m * 2, none⟩) (l.drop m) :=
  ⟨by rw [List.map_drop]; exact recAt_drop h.1 m, fun c hc => h.2 c (List.mem_of_mem_drop hc)⟩

theorem w64 {x : Int} (h0 : 0 ≤ x) (h1 : x ≤ 1000001) : wrap64 x = x := by unfold wrap64; omega
/-- The coin of a name, or none. -/
def RetFind (l : List Co) (d : ByteArray) (w : World) (e : Ending) (w' : World) : Prop :=
  ((e = .returned (.tuple #[.bool false, .agg #[.string ByteArray.empty, .pointer none]]) ∧ ∀ x ∈ l, x.s ≠ d) ∨ ∃ x ∈ l, x.s = d ∧ e = .returned (.tuple #[.bool true, coinV d x.b])) ∧ Ext w w'
theorem lt_ne {a b : ByteArray} (h : keyLt a b = true) : a ≠ b := by rintro rfl; rw [keyLt_irrefl] at h; cases h
theorem find_low {l : List Co} {d : ByteArray} {m : Nat} (hm : m < l.length) (hs : l.Pairwise fun a b => le (Co.s a) (Co.s b)) (h : keyLt d l[m].s = true) (hn : ∀ x ∈ l.take m, x.s ≠ d) : ∀ x ∈ l, x.s ≠ d := by
  intro x hx
  obtain ⟨j, hj, rfl⟩ := List.getElem_of_mem hx
  rcases Nat.lt_trichotomy j m with e | e | e
  · exact hn _ (List.mem_take_iff_getElem.2 ⟨j, by omega, by simp⟩)
  · subst e; exact (lt_ne h).symm
  · exact (lt_ne (key_lt_of_lt_of_le h (List.pairwise_iff_getElem.1 hs m j hm hj e))).symm
theorem find_high {l : List Co} {d : ByteArray} {m : Nat} (hm : m < l.length) (hs : l.Pairwise fun a b => le (Co.s a) (Co.s b)) (h : keyLt l[m].s d = true) (hn : ∀ x ∈ l.drop (m + 1), x.s ≠ d) : ∀ x ∈ l, x.s ≠ d := by
  intro x hx
  obtain ⟨j, hj, rfl⟩ := List.getElem_of_mem hx
  rcases Nat.lt_or_ge m j with e | e
  · exact hn _ (List.mem_drop_iff_getElem.2 ⟨j - (m + 1), by omega, by congr 1; omega⟩)
  · intro e2
    have hle : le l[j].s l[m].s := by
      rcases Nat.lt_or_ge j m with f | f
      · exact List.pairwise_iff_getElem.1 hs j m hj hm f
      · obtain rfl : j = m := by omega
        exact le_refl _
    rw [e2] at hle
    unfold le at hle; rw [h] at hle; cases hle

end Go.Proofs.YtfafiahefjimdaaGreatDoor

namespace Go.Proofs.YtfafiahefjimdaaGreatDoor
open Go Go.RowKit

/-- "denomination is not sorted", "duplicate denomination", "coin amount is not positive". -/
abbrev notSorted : ByteArray := ⟨#[100, 101, 110, 111, 109, 105, 110, 97, 116, 105, 111, 110, 32, 105, 115, 32, 110, 111, 116, 32, 115, 111, 114, 116, 101, 100]⟩
abbrev duplDenom : ByteArray := ⟨#[100, 117, 112, 108, 105, 99, 97, 116, 101, 32, 100, 101, 110, 111, 109, 105, 110, 97, 116, 105, 111, 110]⟩
abbrev notPos : ByteArray := ⟨#[99, 111, 105, 110, 32, 97, 109, 111, 117, 110, 116, 32, 105, 115, 32, 110, 111, 116, 32, 112, 111, 115, 105, 116, 105, 118, 101]⟩
/-- What is wrong with a coin behind one of the name p. -/
def errOne (p : Option ByteArray) (x : ByteArray × Int) : Option ByteArray :=
  if denomB x.1 = false then some invDenom else
  match p with
  | some q => if keyLt x.1 q = true then some notSorted else if x.1 = q then some duplDenom else if x.2 ≤ 0 then some notPos else none
  | none => if x.2 ≤ 0 then some notPos else none
def errAt (l : List (ByteArray × Int)) (j : Nat) : Option ByteArray :=
  match l[j]? with
  | none => none
  | some x => errOne (if j = 0 then none else (l[j - 1]?).map Prod.fst) x
/-- The first thing that is wrong with a list; none: nothing. -/
def ErrIs (l : List (ByteArray × Int)) (o : Option ByteArray) : Prop :=
  match o with
  | none => ∀ j, errAt l j = none
  | some t => ∃ j, errAt l j = some t ∧ ∀ i, i < j → errAt l i = none
theorem errIs_unique {l : List (ByteArray × Int)} {o o' : Option ByteArray} (h : ErrIs l o) (h' : ErrIs l o') : o = o' := by
  cases o with
  | none =>
    cases o' with
    | none => rfl
    | some t =>
      obtain ⟨j, hj, _⟩ := h'
      have := h j; rw [hj] at this; cases this
  | some t =>
    obtain ⟨j, hj, hi⟩ := h
    cases o' with
    | none => have := h' j; rw [hj] at this; cases this
    | some t' =>
      obtain ⟨j', hj', hi'⟩ := h'
      rcases Nat.lt_trichotomy j j' with e | e | e
      · have := hi' j e; rw [hj] at this; cases this
      · subst e; rw [hj] at hj'; exact hj'
      · have := hi j' e; rw [hj'] at this; cases this
theorem errAt_zero {l : List (ByteArray × Int)} (h : 0 < l.length) : errAt l 0 = errOne none l[0] := by unfold errAt; rw [List.getElem?_eq_getElem h]; rfl
theorem errAt_succ {l : List (ByteArray × Int)} {k : Nat} (h : k + 1 < l.length) : errAt l (k + 1) = errOne (some l[k].1) l[k + 1] := by
  unfold errAt; rw [List.getElem?_eq_getElem h, if_neg (by omega), Nat.add_sub_cancel, List.getElem?_eq_getElem (by omega)]; rfl
theorem errAt_out {l : List (ByteArray × Int)} {j : Nat} (h : l.length ≤ j) : errAt l j = none := by unfold errAt; rw [List.getElem?_eq_none h]
theorem errIs_none {l : List (ByteArray × Int)} {k : Nat} (h : ∀ j, j ≤ k → errAt l j = none) (hk : l.length ≤ k + 1) : ErrIs l none := fun j => by
  rcases Nat.lt_or_ge k j with e | e
  · exact errAt_out (by omega)
  · exact h j e
theorem errIs_some {l : List (ByteArray × Int)} {k : Nat} {t : ByteArray} (h : ∀ j, j ≤ k → errAt l j = none) (e : errAt l (k + 1) = some t) : ErrIs l (some t) := ⟨k + 1, e, fun i hi => h i (by omega)⟩
theorem sgn_pos (z : Int) : (sgn z == 1) = decide (0 < z) := by
  unfold sgn
  by_cases h1 : z < 0
  · rw [if_pos h1]; have : ¬ 0 < z := by omega
    simp [this]
  · rw [if_neg h1]
    by_cases h2 : 0 < z
    · rw [if_pos h2]; simp [h2]
    · rw [if_neg h2]; simp [h2]

/-- No error, or this one. -/
def RetErrO (o : Option ByteArray) (w : World) (e : Ending) (w' : World) : Prop :=
  match o with
  | none => e = .returned .nilIface ∧ Ext w w'
  | some t => RetErr t w e w'
def RetErrOf (l : List (ByteArray × Int)) (w : World) (e : Ending) (w' : World) : Prop := ∃ o, ErrIs l o ∧ RetErrO o w e w'
theorem tValidBad {s : ByteArray} (hs : s.size ≤ 9223372036854775807) (h : denomB s = false) (w : World) : Calls Tryz.prog 91 #[.string s] w (RetErr invDenom w) :=
  (tValid s w hs).mono (by rw [h]; rintro e w' (⟨h, _⟩ | ⟨_, h⟩); cases h; exact h)
theorem tValidGood {s : ByteArray} (hs : s.size ≤ 9223372036854775807) (h : denomB s = true) (w : World) : Calls Tryz.prog 91 #[.string s] w (fun e w' => e = .returned .nilIface ∧ w' = w) :=
  (tValid s w hs).mono (by rw [h]; rintro e w' (⟨_, h⟩ | ⟨h, _⟩); exact h; cases h)

end Go.Proofs.YtfafiahefjimdaaGreatDoor

namespace Go.Proofs.YtfafiahefjimdaaGreatDoor
open Go Go.RowKit

end Go.Proofs.YtfafiahefjimdaaGreatDoor

namespace Go.Proofs.YtfafiahefjimdaaGreatDoor
open Go Go.RowKit

/-- Plain coins handed back, in order. -/
def RetSorted (E : TypeId) (l : List (ByteArray × Int)) (w : World) (e : Ending) (w' : World) : Prop := ∃ r, RetPlain E r w e w' ∧ r.Perm l ∧ r.Pairwise fun a b => le a.1 b.1

set_option maxRecDepth 100000 in
theorem tSortNil (w : World) : Calls Tryz.prog 252 #[.slice none 0 0] w fun e w' => e = .returned (.slice none 0 0) ∧ w' = w := by
  go_enter Tryz.func252, Tryz.ntmps252
  go_wp2
  go_ret
  exact ⟨rfl, rfl⟩
/-- Coins.Sort of coins of the call's own, in order behind it. -/
def RetOwnSorted (base : Nat) (L0 : List Co) (w : World) (e : Ending) (w' : World) : Prop :=
  ∃ v L, e = .returned v ∧ CoinsOwn w' base v L ∧ L.Perm L0 ∧ (L.Pairwise fun a b => le (Co.s a) (Co.s b)) ∧ ∀ w0 : World, Ext w0 w → w0.heap.size ≤ base → Ext w0 w'
theorem tSortOwn {base : Nat} {v : Value} {L0 : List Co} {w : World} (h : CoinsOwn w base v L0) (hn : L0.length ≤ 12) : Calls Tryz.prog 252 #[v] w (RetOwnSorted base L0 w) := by
  rcases h.1.2 with ⟨hv, hn0⟩ | ⟨g, cap, cur, hv, hbg, hgb, hnc, hcm, hcs, hct⟩
  · subst hv
    obtain rfl : L0 = [] := List.length_eq_zero_iff.1 hn0
    refine (tSortNil w).mono ?_
    rintro e w' ⟨rfl, rfl⟩
    exact ⟨_, [], rfl, CoinsOwn.nil _ _, List.Perm.refl _, List.Pairwise.nil, fun w0 e0 _ => e0⟩
  · subst hv
    have hrow := row_of_own hgb hct
    refine (tSort g L0.length cap L0 _ w hrow rfl (Or.inl hn)).mono ?_
    rintro e w' ⟨rfl, L, hr, ho, hP, hS⟩
    have hl := hP.length_eq
    have h1 : (flat2 (L.map Co.pair)).length = L.length * 2 := by rw [flat2_length]; simp
    refine ⟨_, L, rfl, ⟨⟨by rw [flat2_length]; simp, Or.inr ⟨g, cap, (flat2 (L.map Co.pair) ++ cur.toList.drop (L0.length * 2)).toArray, by rw [hl], hbg, hr, by omega, hcm, ?_, ?_⟩⟩, fun x hx => (h.2 x (hP.mem_iff.1 hx)).only ho hrow⟩, hP, hS, fun w0 e0 hb => Only.ext e0 ho (by omega)⟩
    · simp [h1]; omega
    · rw [show (flat2 (L.map Co.pair) ++ cur.toList.drop (L0.length * 2)).toArray.toList = flat2 (L.map Co.pair) ++ cur.toList.drop (L0.length * 2) from rfl, List.take_append_of_le_length (by omega), List.take_of_length_le (by omega)]

theorem perm_plain {L cs : List Co} {l : List (ByteArray × Int)} (hP : L.Perm cs) (hv : cs.map Co.val = l) : (L.map Co.val).Perm l := hv ▸ hP.map _
end Go.Proofs.YtfafiahefjimdaaGreatDoor

namespace Go.Proofs.YtfafiahefjimdaaGreatDoor
open Go Go.RowKit

/-- Sorted in a row of the call's own; nothing but that row has turned. -/
def RetSortRow (base : Nat) (v : Value) (L0 : List Co) (w : World) (e : Ending) (w' : World) : Prop :=
  ∃ L, e = .returned v ∧ CoinsOwn w' base v L ∧ L.Perm L0 ∧ (L.Pairwise fun a b => le (Co.s a) (Co.s b)) ∧ w.grownBy w' v.ownBlock
theorem tSortRow {base : Nat} {v : Value} {L0 : List Co} {w : World} (h : CoinsOwn w base v L0) (hn : L0.length ≤ 12) : Calls Tryz.prog 252 #[v] w (RetSortRow base v L0 w) := by
  rcases h.1.2 with ⟨hv, hn0⟩ | ⟨g, cap, cur, hv, hbg, hgb, hnc, hcm, hcs, hct⟩
  · subst hv
    obtain rfl : L0 = [] := List.length_eq_zero_iff.1 hn0
    refine (tSortNil w).mono ?_
    rintro e w' ⟨rfl, rfl⟩
    exact ⟨[], rfl, CoinsOwn.nil _ _, List.Perm.refl _, List.Pairwise.nil, World.grownBy.refl _ _⟩
  · subst hv
    have hrow := row_of_own hgb hct
    refine (tSort g L0.length cap L0 _ w hrow rfl (Or.inl hn)).mono ?_
    rintro e w' ⟨rfl, L, hr, ho, hP, hS⟩
    have hl := hP.length_eq
    have h1 : (flat2 (L.map Co.pair)).length = L.length * 2 := by rw [flat2_length]; simp
    refine ⟨L, rfl, ⟨⟨by rw [flat2_length]; simp, Or.inr ⟨g, cap, (flat2 (L.map Co.pair) ++ cur.toList.drop (L0.length * 2)).toArray, by rw [hl], hbg, hr, by omega, hcm, ?_, ?_⟩⟩, fun x hx => (h.2 x (hP.mem_iff.1 hx)).only ho hrow⟩, hP, hS, ho⟩
    · simp [h1]; omega
    · rw [show (flat2 (L.map Co.pair) ++ cur.toList.drop (L0.length * 2)).toArray.toList = flat2 (L.map Co.pair) ++ cur.toList.drop (L0.length * 2) from rfl, List.take_append_of_le_length (by omega), List.take_of_length_le (by omega)]
/-- Another row stays. -/
theorem own_keep {w w' : World} {base b2 : Nat} {v v2 : Value} {L M : List Co} (h2 : CoinsOwn w b2 v2 M) (h : CoinsOwn w base v L) (hg : w.grownBy w' v.ownBlock) (hne : ∀ g, v.ownBlock = some g → v2.ownBlock ≠ some g) : CoinsOwn w' b2 v2 M := by
  refine ⟨⟨h2.1.1, ?_⟩, fun x hx => (h2.2 x hx).grown h.1 hg⟩
  rcases h2.1.2 with hn | ⟨g, cap, cur, hv, hb, hh, r⟩
  · exact Or.inl hn
  · refine Or.inr ⟨g, cap, cur, hv, hb, ?_, r⟩
    rw [← hh]
    refine hg.block g (Array.getElem?_eq_some_iff.1 hh).1 fun e => hne g e.symm ?_
    rw [hv]; rfl
theorem own_block {w : World} {base : Nat} {v : Value} {L : List Co} (h : CoinsOwn w base v L) : ∀ g, v.ownBlock = some g → base ≤ g ∧ g < w.heap.size := by
  intro g hg
  rcases h.1.2 with ⟨hv, _⟩ | ⟨g', cap, cur, hv, hb, hh, _⟩
  · subst hv; simp [Value.ownBlock] at hg
  · subst hv
    simp [Value.ownBlock] at hg
    subst hg
    exact ⟨hb, (Array.getElem?_eq_some_iff.1 hh).1⟩
theorem grown_old {w w' : World} {base : Nat} {v : Value} {L : List Co} (h : CoinsOwn w base v L) (hg : w.grownBy w' v.ownBlock) {w0 : World} (e0 : Ext w0 w) (hb : w0.heap.size ≤ base) : Ext w0 w' :=
  Below.grown e0 hg e0.size (fun g hv => Nat.le_trans hb (own_block h g hv).1)

theorem coinEq_eq (s t : ByteArray) (y z : Int) : coinEq s t y z = decide ((s, y) = (t, z)) := by
  unfold coinEq
  rw [key_beq]
  by_cases h : s = t
  · subst h
    by_cases k : y = z
    · subst k; simp [cmpZ]
    · have : cmpZ y z ≠ 0 := by unfold cmpZ; split; · decide
                                split; · decide
                                omega
      simp [k, this]
  · simp [h]

/-- Two lists held against each other: of different lengths; or sorted, and then coin by coin. -/
def RetEqual (b1 b2 : Nat) (L0 M0 : List Co) (w : World) (e : Ending) (w' : World) : Prop :=
  ((L0.length ≠ M0.length ∧ e = .returned (.bool false)) ∨ ∃ L M : List Co, L.Perm L0 ∧ M.Perm M0 ∧ (L.Pairwise fun a b => le (Co.s a) (Co.s b)) ∧ (M.Pairwise fun a b => le (Co.s a) (Co.s b)) ∧ e = .returned (.bool (decide (L.map Co.val = M.map Co.val)))) ∧
  ∀ w0, Ext w0 w → w0.heap.size ≤ b1 → w0.heap.size ≤ b2 → Ext w0 w'
theorem val_take {L M : List Co} {k : Nat} (hk : k < L.length) (hk' : k < M.length) (h : (L.map Co.val).take k = (M.map Co.val).take k) (e : Co.val L[k] = Co.val M[k]) : (L.map Co.val).take (k + 1) = (M.map Co.val).take (k + 1) := by
  rw [List.take_succ_eq_append_getElem (by simpa using hk), List.take_succ_eq_append_getElem (by simpa using hk'), h]
  simp [e]
theorem val_ne {L M : List Co} {k : Nat} (hk : k < L.length) (hk' : k < M.length) (e : Co.val L[k] ≠ Co.val M[k]) : decide (L.map Co.val = M.map Co.val) = false := by
  rw [decide_eq_false_iff_not]; intro h
  have : (L.map Co.val)[k]? = (M.map Co.val)[k]? := by rw [h]
  rw [List.getElem?_eq_getElem (by simpa using hk), List.getElem?_eq_getElem (by simpa using hk')] at this
  simp at this; exact e this

theorem both2 {α : Type} {Q : α → Prop} {l m : List α} (h : ∀ x ∈ l, Q x) (k : ∀ x ∈ m, Q x) : ∀ x ∈ l ++ m, Q x := fun x hx => (List.mem_append.1 hx).elim (h x) (k x)
/-- Two plain lists held against each other. -/
def RetEqualOf (l l' : List (ByteArray × Int)) (w : World) (e : Ending) (w' : World) : Prop :=
  ((l.length ≠ l'.length ∧ e = .returned (.bool false)) ∨ ∃ r r' : List (ByteArray × Int), r.Perm l ∧ r'.Perm l' ∧ (r.Pairwise fun a b => le a.1 b.1) ∧ (r'.Pairwise fun a b => le a.1 b.1) ∧ e = .returned (.bool (decide (r = r')))) ∧ Ext w w'
theorem val_bound {cs : List Co} {l : List (ByteArray × Int)} (h : cs.map Co.val = l) (hz : ∀ x ∈ l, -maxI ≤ x.2 ∧ x.2 ≤ maxI) : ∀ x ∈ cs, x.z.natAbs < B64 := by
  intro x hx
  have := hz x.val (by rw [← h]; exact List.mem_map_of_mem hx)
  have e : x.val.2 = x.z := rfl
  rw [e] at this; unfold maxI at this; unfold B64; omega

theorem equal_fact {l l' : List (ByteArray × Int)} {w w' : World} {e : Ending} (h : RetEqualOf l l' w e w') (ho : onceB l = true) (ho' : onceB l' = true) :
    ∃ q : Bool, e = .returned (.bool q) ∧ (∀ ra rb : List (ByteArray × Int), ra.Perm l → (ra.Pairwise fun a b => le a.1 b.1) → rb.Perm l' → (rb.Pairwise fun a b => le a.1 b.1) → decide (ra = rb) = q) ∧ Ext w w' := by
  obtain ⟨h1, h2⟩ := h
  rcases h1 with ⟨hne, rfl⟩ | ⟨r, r', hp, hp', hs, hs', rfl⟩
  · refine ⟨false, rfl, fun ra rb h3 _ h5 _ => ?_, h2⟩
    rw [decide_eq_false_iff_not]; rintro rfl
    exact hne (h3.length_eq.symm.trans h5.length_eq)
  · refine ⟨_, rfl, fun ra rb h3 h4 h5 h6 => ?_, h2⟩
    rw [sorted_same h3 h4 hp hs ho, sorted_same h5 h6 hp' hs' ho']
end Go.Proofs.YtfafiahefjimdaaGreatDoor

namespace Go.Proofs.YtfafiahefjimdaaGreatDoor
open Go Go.RowKit

theorem run_append_none {P : Program} (w : World) (t ty e : TypeId) (i : TypeInfo) (h1 : P.underlying t = some (.slice e)) (h2 : P.info? e = some i) (a x : Option Addr) (n cap c : Nat) (h : n ≤ cap) :
    (Builtin.append_ #[t, t] ty #[.slice a n cap, .slice x 0 c]).run P w = .ok (.slice a n cap) w := by
  cases a <;> cases x <;> simp [Builtin.append_, run_underlying h1, Go.sizeOf, typeInfo, h2, Result.andThen, Builtin.lenOf, Builtin.firstCells, h, storeCells, loadCells, loadCellsFrom]
theorem step_append_none {P : Program} {ops : Array Oper} {o : Oper} {a : Act} {w : World} {K : Act → World → Prop} {Q : Exit → Act → World → Prop} {E : Prop}
    (hg : o.guard = none) (s x : Operand) (t : TypeId) (hop : o.op = Op.call { callee := Callee.builtin Builtin.append, args := #[s, x], argTypes := #[t, t] })
    (e : TypeId) (i : TypeInfo) (h1 : P.underlying t = some (.slice e)) (h2 : P.info? e = some i) (ao ax : Option Addr) (n cap c : Nat) (hs : a.eval s = .slice ao n cap) (hx : a.eval x = .slice ax 0 c) (h : n ≤ cap)
    (hK : K (a.put o.dst (.slice ao n cap)) w) : if Region.wanted o (yielded ops a.tmps) = true then Oper.wp P o a w K Q else E := by
  have hw : Region.wanted o (yielded ops a.tmps) = true := by simp [Region.wanted, hg]
  rw [if_pos hw]
  have hrun := run_append_none (P := P) w t o.type e i h1 h2 ao ax n cap c h
  unfold Oper.wp
  simp [execOp, hop, resolve, invoke, builtin, hs, hx, hrun, Result.andThen]
  exact hK

theorem ext_none {a b : World} (h : a.grownBy b none) : Ext a b := ⟨h.os, h.tape, h.output, h.size, fun i hi => h.block i hi (by simp)⟩
theorem ext_da (w : World) (o o' : Obj) (n : Nat) : Ext w (((w.alloc o).drewN n).alloc o') := ((Ext.alloc' _ _).trans' (Ext.drewN' _ _)).trans' (Ext.alloc' _ _)
theorem ext_dda (w : World) (o o' : Obj) (n : Nat) : Ext w (((w.alloc o).drewN n).drew.alloc o') := (((Ext.alloc' _ _).trans' (Ext.drewN' _ _)).trans' (Ext.drewN' _ 1)).trans' (Ext.alloc' _ _)
theorem two_da (w : World) (a b : Value) (t : TypeId) (n : Nat) : ∀ j u, [a, b][j]? = some u → (((w.alloc (.cells #[a, b] t)).drewN n).alloc (.cells #[a, b] t)).cell? ((⟨w.heap.size + 1, 0, none⟩ : Addr).add j) = some u := by
  have := cell_two_new ((w.alloc (.cells #[a, b] t)).drewN n) a b t
  rwa [show ((w.alloc (.cells #[a, b] t)).drewN n).heap.size = w.heap.size + 1 by simp] at this
theorem keep_rec {a b : World} {g : Nat} {u v : Value} (h : a.cell? ⟨g, 0, none⟩ = some u ∧ a.cell? ⟨g, 1, none⟩ = some v) (e : Ext a b) : b.cell? ⟨g, 0, none⟩ = some u ∧ b.cell? ⟨g, 1, none⟩ = some v := ⟨e.cell' h.1, e.cell' h.2⟩
theorem two_at (w : World) (a b : Value) (t : TypeId) (n : Nat) : (((w.alloc (.cells #[a, b] t)).drewN n).alloc (.cells #[a, b] t)).cell? ⟨w.heap.size, 0, none⟩ = some a ∧ (((w.alloc (.cells #[a, b] t)).drewN n).alloc (.cells #[a, b] t)).cell? ⟨w.heap.size, 1, none⟩ = some b :=
  ⟨cell_old _ (show (w.alloc _).cell? _ = _ by rw [cell_new]; rfl), cell_old _ (show (w.alloc _).cell? _ = _ by rw [cell_new]; rfl)⟩
theorem two_at' (w : World) (a b : Value) (t : TypeId) (n : Nat) : (((w.alloc (.cells #[a, b] t)).drewN n).drew.alloc (.cells #[a, b] t)).cell? ⟨w.heap.size, 0, none⟩ = some a ∧ (((w.alloc (.cells #[a, b] t)).drewN n).drew.alloc (.cells #[a, b] t)).cell? ⟨w.heap.size, 1, none⟩ = some b :=
  ⟨cell_old _ (show (w.alloc _).cell? _ = _ by rw [cell_new]; rfl), cell_old _ (show (w.alloc _).cell? _ = _ by rw [cell_new]; rfl)⟩
theorem flat2_drop (l : List (Value × Value)) (j : Nat) : flat2 (l.drop j) = (flat2 l).drop (j * 2) := by
  induction l generalizing j with
  | nil => simp [flat2]
  | cons a t ih =>
    cases j with
    | zero => simp
    | succ j =>
      rw [List.drop_succ_cons, ih, show (j + 1) * 2 = j * 2 + 1 + 1 by omega]
      simp [flat2]
/-- The cells of a row's end. -/
theorem row_part {w W : World} {g : Nat} {E : TypeId} {cur : Array Value} {out : List (ByteArray × Int)} (hb : Blk w g E cur.toList) (ht : cur.toList.take (out.length * 2) = flat2 (out.map plain)) (e : Ext w W) (j : Nat) (_ : j ≤ out.length) :
    ∀ i u, (flat2 ((out.drop j).map plain))[i]? = some u → W.cell? ((⟨g, j * 2, none⟩ : Addr).add i) = some u := by
  intro i u hu
  rw [List.map_drop, flat2_drop, List.getElem?_drop, ← ht, List.getElem?_take] at hu
  split at hu
  · have hadd : (⟨g, j * 2, none⟩ : Addr).add i = ⟨g, j * 2 + i, none⟩ := by unfold Addr.add; split <;> simp_all
    rw [hadd]
    exact e.cell' ((hb.cell _).trans hu)
  · cases hu
theorem flat2_take (l : List (Value × Value)) (j : Nat) : flat2 (l.take j) = (flat2 l).take (j * 2) := by
  induction l generalizing j with
  | nil => simp [flat2]
  | cons a t ih =>
    cases j with
    | zero => simp [flat2]
    | succ j =>
      rw [List.take_succ_cons, flat2_cons, ih, flat2_cons, show (j + 1) * 2 = j * 2 + 1 + 1 by omega]
      simp
/-- The cells of a row's head. -/
theorem row_head {w W : World} {g : Nat} {E : TypeId} {cur : Array Value} {out : List (ByteArray × Int)} (hb : Blk w g E cur.toList) (ht : cur.toList.take (out.length * 2) = flat2 (out.map plain)) (e : Ext w W) (j : Nat) (_ : j ≤ out.length) (b : Addr) (hB : (some (⟨g, 0, none⟩ : Addr)) = some b) :
    ∀ i u, (flat2 ((out.take j).map plain))[i]? = some u → W.cell? (b.add i) = some u := by
  intro i u hu
  obtain rfl := (Option.some.inj hB).symm
  rw [List.map_take, flat2_take, ← ht, List.getElem?_take, List.getElem?_take] at hu
  split at hu
  · split at hu
    · have hadd : (⟨g, 0, none⟩ : Addr).add i = ⟨g, i, none⟩ := by unfold Addr.add; split <;> simp_all
      rw [hadd]
      exact e.cell' ((hb.cell _).trans hu)
    · cases hu
  · cases hu
theorem row_fst {w : World} {g : Nat} {E : TypeId} {cur : Array Value} {out : List (ByteArray × Int)} (hb : Blk w g E cur.toList) (ht : cur.toList.take (out.length * 2) = flat2 (out.map plain)) (j : Nat) (hj : j < out.length) : w.cell? ⟨g, j * 2, none⟩ = some (.string out[j].1) := by
  have h1 := (flat2_get (out.map plain) j (by simpa using hj)).1
  rw [← ht, List.getElem?_take, if_pos (by omega)] at h1
  rw [hb.cell, h1]; simp [plain]
theorem ins_fin {w W1 w40 : World} {base J m : Nat} {E : TypeId} {v : Value} {s : ByteArray} {z : Int} {out : List (ByteArray × Int)} (hE : Ext w W1)
    (h : w40.ownsRow base E 2 v (J + (1 + m)) (flat2 ((out.take J).map plain) ++ ([.string s, .int .i64 z] ++ flat2 ((out.drop J).map plain)))) (e : Ext W1 w40) (hb : w.heap.size ≤ base) :
    PlainOwn w40 w.heap.size E v (out.take J ++ (s, z) :: out.drop J) ∧ Ext w w40 := by
  refine ⟨?_, hE.trans' e⟩
  have hl : (out.take J ++ (s, z) :: out.drop J).length = J + (1 + m) := by
    have := h.1
    simp only [List.length_append, flat2_length, List.length_map, List.length_cons, List.length_nil] at this ⊢
    omega
  unfold PlainOwn
  rw [hl]
  have := row_low h hb
  simpa [flat2_append, flat2_cons, plain] using this
theorem ins_fin0 {w W1 w40 : World} {base J : Nat} {E : TypeId} {v : Value} {s : ByteArray} {z : Int} {out : List (ByteArray × Int)} (hE : Ext w W1)
    (h : w40.ownsRow base E 2 v (J + 1) (flat2 ((out.take J).map plain) ++ [.string s, .int .i64 z])) (e : Ext W1 w40) (hb : w.heap.size ≤ base) :
    PlainOwn w40 w.heap.size E v (out.take J ++ [(s, z)]) ∧ Ext w w40 := by
  refine ⟨?_, hE.trans' e⟩
  have hl : (out.take J ++ [(s, z)]).length = J + 1 := by
    have := h.1
    simp only [List.length_append, flat2_length, List.length_map, List.length_cons, List.length_nil] at this ⊢
    omega
  unfold PlainOwn
  rw [hl]
  have := row_low h hb
  simpa [flat2_append, flat2_cons, plain, flat2] using this
theorem ins_perm {l out : List (ByteArray × Int)} {k : Nat} {s : ByteArray} {z : Int} (hk : k < l.length) (hp : out.Perm (l.take k)) (he : l[k] = (s, z)) (J : Nat) : (out.take J ++ (s, z) :: out.drop J).Perm (l.take (k + 1)) := by
  rw [List.take_succ_eq_append_getElem hk, he]
  refine List.perm_middle.trans ?_
  rw [List.take_append_drop]
  exact (List.Perm.cons _ hp).trans (List.perm_append_singleton _ _).symm
theorem ins_perm0 {l out : List (ByteArray × Int)} {k : Nat} {s : ByteArray} {z : Int} {J : Nat} (hk : k < l.length) (hp : out.Perm (l.take k)) (he : l[k] = (s, z)) (hJ : out.length ≤ J) : (out.take J ++ [(s, z)]).Perm (l.take (k + 1)) := by
  have := ins_perm hk hp he J
  rwa [List.drop_eq_nil_of_le hJ] at this
theorem ins_pair {out : List (ByteArray × Int)} {J : Nat} {s : ByteArray} {z : Int} (h : out.Pairwise fun a b => le a.1 b.1) (hq : ∀ p, (hp : p < out.length) → J ≤ p → keyLt s out[p].1 = true) (hlo : ∀ p, (hp : p < out.length) → p < J → le out[p].1 s) (_ : J ≤ out.length) :
    (out.take J ++ (s, z) :: out.drop J).Pairwise fun a b => le a.1 b.1 := by
  have h1 : ∀ a ∈ out.take J, le a.1 s := fun a ha => by
    obtain ⟨p, hp, rfl⟩ := List.getElem_of_mem ha
    simp at hp
    rw [List.getElem_take]; exact hlo p (by omega) (by omega)
  have h2 : ∀ b ∈ out.drop J, le s b.1 := fun b hb => by
    obtain ⟨p, hp, rfl⟩ := List.getElem_of_mem hb
    simp at hp
    rw [List.getElem_drop]; exact le_of_lt (hq _ (by omega) (by omega))
  rw [List.pairwise_append]
  refine ⟨h.sublist (List.take_sublist _ _), ?_, ?_⟩
  · rw [List.pairwise_cons]
    exact ⟨h2, h.sublist (List.drop_sublist _ _)⟩
  · intro a ha b hb
    rcases List.mem_cons.1 hb with rfl | hb
    · exact h1 a ha
    · exact le_trans (h1 a ha) (h2 b hb)
theorem ins_pair0 {out : List (ByteArray × Int)} {J : Nat} {s : ByteArray} {z : Int} (h : out.Pairwise fun a b => le a.1 b.1) (hlo : ∀ p, (hp : p < out.length) → p < J → le out[p].1 s) (hJ : out.length ≤ J) :
    (out.take J ++ [(s, z)]).Pairwise fun a b => le a.1 b.1 := by
  rw [List.take_of_length_le hJ, List.pairwise_append]
  refine ⟨h, List.pairwise_singleton _ _, fun a ha b hb => ?_⟩
  rw [List.mem_singleton] at hb; subst hb
  obtain ⟨p, hp, rfl⟩ := List.getElem_of_mem ha
  exact hlo p hp (by omega)
theorem plain_one' (l : List (ByteArray × Int)) : ∀ u ∈ flat2 (l.map plain), u.oneCell' = true := by
  intro u hu
  obtain ⟨p, hp, hu⟩ := List.mem_flatMap.1 hu
  obtain ⟨x, _, rfl⟩ := List.mem_map.1 hp
  simp [plain] at hu
  rcases hu with rfl | rfl <;> rfl

end Go.Proofs.YtfafiahefjimdaaGreatDoor
