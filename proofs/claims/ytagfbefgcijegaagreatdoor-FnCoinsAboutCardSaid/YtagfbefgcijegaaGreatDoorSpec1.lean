/-
  Contracts of the laws' sizes, and of the reference's IsSumList.
-/
import Derived.Test.YtagfbefgcijegaaGreatDoorList2
import Derived.Test.YtagfbefgcijegaaGreatDoorDenom2
import Derived.BigQuiet
namespace Go.Proofs.YtagfbefgcijegaaGreatDoor
open Go Go.RowKit

/-- A bool handed back that, if true, tells this. -/
def RetIf (p : Prop) (w : World) (e : Ending) (w' : World) : Prop := ∃ r : Bool, e = .returned (.bool r) ∧ (r = true → p) ∧ Ext w w'

set_option maxRecDepth 100000 in
theorem zFits1 (s : ByteArray) (z : Int) (w : World) : Calls Tryz.prog 37 #[.agg #[.string s, .int .i64 z]] w (RetE (.bool (decide (s.size ≤ 2147483647))) w) := by
  by_cases h1 : 2147483647 < s.size
  · have d1 : decide (2147483647 < s.size) = true := by simpa using h1
    have F := Lib.hid (show decide (s.size ≤ 2147483647) = false by simp; omega)
    go_enter Tryz.func37, Tryz.ntmps37
    go_wp2
    go_ret
    rw [F.out]; exact ⟨rfl, ext1 _ _⟩
  · have d1 : decide (2147483647 < s.size) = false := by simpa using h1
    have F := Lib.hid (show decide (s.size ≤ 2147483647) = true by simp; omega)
    go_enter Tryz.func37, Tryz.ntmps37
    go_wp2
    go_ret
    rw [F.out]; exact ⟨rfl, ext1 _ _⟩

/-- What zzFits2 tells. -/
def Fits (n : Nat) (l : List (ByteArray × Int)) : Prop := n ≤ 2147483647 ∧ ∀ x ∈ l, x.1.size ≤ 2147483647

set_option maxRecDepth 100000 in
set_option maxHeartbeats 1000000 in
theorem zFits2 (A : Option Addr) (n c : Nat) (l : List (ByteArray × Int)) (w : World) (hl : l.length = n) (hn : n ≤ 9223372036854775807) (h : PlainAt w A l) :
    Calls Tryz.prog 19 #[.slice A n c] w (RetIf (Fits n l) w) := by
  have HL := Lib.hid hl; have HP := Lib.hid h
  clear hl h
  by_cases h1 : 2147483647 < n
  · have d1 : decide ((2147483647 : Int) < (n : Int)) = true := by simp; omega
    go_enter Tryz.func19, Tryz.ntmps19
    go_wp2
    go_ret
    exact ⟨false, rfl, (fun h => by cases h), Ext.refl _⟩
  · have d1 : decide ((2147483647 : Int) < (n : Int)) = false := by simp; omega
    go_enter Tryz.func19, Tryz.ntmps19
    go_wp2
    go_loopw [10] (fun i wr => ∃ k : Nat, k ≤ n ∧ i = .int .i64 k ∧ (∀ x ∈ l.take k, x.1.size ≤ 2147483647) ∧ Ext w wr) (fun i _ => n - (intOf i).toNat)
    case atStart => exact ⟨0, Nat.zero_le _, rfl, (fun x hx => by simp at hx), Ext.refl _⟩
    case round =>
      obtain ⟨k, hk, rfl, hq, hE⟩ := hrel
      have HQ := Lib.hid hq; have HE := Lib.hid hE
      clear hq hE
      by_cases hlt : k < n
      · have hkl : k < l.length := by rw [HL.out]; exact hlt
        obtain ⟨s, hs⟩ : ∃ s, s = l[k].1 := ⟨_, rfl⟩
        obtain ⟨z, hzz⟩ : ∃ z, z = l[k].2 := ⟨_, rfl⟩
        obtain ⟨g, o, hA, hc⟩ := HP.out (by intro e; have := congrArg List.length e; simp at this; rw [this] at hkl; simp at hkl)
        subst hA
        have hck := hc k (by simpa using hkl)
        have cs0 : wr.cell? ⟨g, o + k * 2, none⟩ = some (.string s) := HE.out.cell' (by rw [hck.1, hs]; simp [plain])
        have cs1 : wr.cell? ⟨g, o + k * 2 + 1, none⟩ = some (.int .i64 z) := HE.out.cell' (by rw [hck.2, hzz]; simp [plain])
        have HS := Lib.hid hs; clear hs hzz hck hc
        obtain ⟨r, hr⟩ : ∃ r, r = decide (s.size ≤ 2147483647) := ⟨_, rfl⟩
        have HF := Lib.hid (fun W : World => zFits1 s z W)
        rw [← hr] at HF
        have HR := Lib.hid hr; clear hr
        cases r
        · go_wp2_with (first | (go_at_call 37; (with_reducible refine (HF.out _).mono ?_); rintro e w1 ⟨rfl, hE1⟩; have HE1 := Lib.hid ((ext1 _ _).trans' hE1); clear hE1))
          go_ret
          exact ⟨false, rfl, (fun h => by cases h), HE.out.trans' HE1.out⟩
        · go_wp2_with (first | (go_at_call 37; (with_reducible refine (HF.out _).mono ?_); rintro e w1 ⟨rfl, hE1⟩; have HE1 := Lib.hid ((ext1 _ _).trans' hE1); clear hE1))
          go_roundw
          case rel =>
            refine ⟨k + 1, by omega, by go_num, fun x hx => ?_, HE.out.trans' HE1.out⟩
            rw [List.take_succ_eq_append_getElem hkl, List.mem_append, List.mem_singleton] at hx
            rcases hx with hx | rfl
            · exact HQ.out x hx
            · rw [← HS.out]; simpa using HR.out.symm
          case measure => simp [intOf]; omega
      · obtain rfl : k = n := by omega
        go_wp2
        go_ret
        exact ⟨true, rfl, (fun _ => ⟨by omega, fun x hx => HQ.out x (by rw [List.take_of_length_le (by rw [HL.out]; exact Nat.le_refl _)]; exact hx)⟩), HE.out⟩

/-- At most 8 coins, of denominations, with amounts of at most 2^40 from 0. -/
def listB (l : List (ByteArray × Int)) : Bool := decide (l.length ≤ 8 ∧ ∀ x ∈ l, denomB x.1 = true ∧ -1099511627776 ≤ x.2 ∧ x.2 ≤ 1099511627776)
theorem listB_false {l : List (ByteArray × Int)} {x : ByteArray × Int} (hx : x ∈ l) (h : ¬ (denomB x.1 = true ∧ -1099511627776 ≤ x.2 ∧ x.2 ≤ 1099511627776)) : listB l = false := by
  unfold listB; rw [decide_eq_false_iff_not]; rintro ⟨_, k⟩; exact h (k x hx)

set_option maxRecDepth 100000 in
set_option maxHeartbeats 1000000 in
theorem sIsSumList (A : Option Addr) (n c : Nat) (l : List (ByteArray × Int)) (w : World) (hl : l.length = n) (hf : Fits n l) (h : PlainAt w A l) :
    Calls Tryz.prog 20 #[.slice A n c] w (RetE (.bool (listB l)) w) := by
  obtain ⟨hn, hsz⟩ := hf
  have HL := Lib.hid hl; have HP := Lib.hid h; have HSZ := Lib.hid hsz
  clear hl h hsz
  by_cases h1 : 8 < n
  · have d1 : decide ((8 : Int) < (n : Int)) = true := by simp; omega
    have F := Lib.hid (show listB l = false by unfold listB; rw [decide_eq_false_iff_not]; rintro ⟨k, _⟩; have := HL.out; omega)
    go_enter Tryz.func20, Tryz.ntmps20
    go_wp2
    go_ret
    rw [F.out]; exact ⟨rfl, Ext.refl _⟩
  · have d1 : decide ((8 : Int) < (n : Int)) = false := by simp; omega
    go_enter Tryz.func20, Tryz.ntmps20
    go_wp2
    go_loopw [10] (fun i wr => ∃ k : Nat, k ≤ n ∧ i = .int .i64 k ∧ (∀ x ∈ l.take k, denomB x.1 = true ∧ -1099511627776 ≤ x.2 ∧ x.2 ≤ 1099511627776) ∧ Ext w wr) (fun i _ => n - (intOf i).toNat)
    case atStart => exact ⟨0, Nat.zero_le _, rfl, (fun x hx => by simp at hx), Ext.refl _⟩
    case round =>
      obtain ⟨k, hk, rfl, hq, hE⟩ := hrel
      have HQ := Lib.hid hq; have HE := Lib.hid hE
      clear hq hE
      by_cases hlt : k < n
      · have hkl : k < l.length := by rw [HL.out]; exact hlt
        obtain ⟨s, hs⟩ : ∃ s, s = l[k].1 := ⟨_, rfl⟩
        obtain ⟨z, hzz⟩ : ∃ z, z = l[k].2 := ⟨_, rfl⟩
        obtain ⟨g, o, hA, hc⟩ := HP.out (by intro e; have := congrArg List.length e; simp at this; rw [this] at hkl; simp at hkl)
        subst hA
        have hck := hc k (by simpa using hkl)
        have cs0 : wr.cell? ⟨g, o + k * 2, none⟩ = some (.string s) := HE.out.cell' (by rw [hck.1, hs]; simp [plain])
        have cs1 : wr.cell? ⟨g, o + k * 2 + 1, none⟩ = some (.int .i64 z) := HE.out.cell' (by rw [hck.2, hzz]; simp [plain])
        have HD := Lib.hid (fun W : World => sDenom s W (by rw [hs]; have := HSZ.out _ (List.getElem_mem hkl); omega))
        have HS := Lib.hid hs; have HZ := Lib.hid hzz; clear hs hzz hck hc
        have HM := Lib.hid (List.getElem_mem hkl)
        obtain ⟨r, hr⟩ : ∃ r, r = denomB s := ⟨_, rfl⟩
        rw [← hr] at HD
        have HR := Lib.hid hr; clear hr
        have bad := Lib.hid (fun (hb : ¬ (r = true ∧ -1099511627776 ≤ z ∧ z ≤ 1099511627776)) => listB_false HM.out (by rw [← HS.out, ← HZ.out, ← HR.out]; exact hb))
        cases r
        · go_wp2_with (first | (go_at_call 32; (with_reducible refine (HD.out _).mono ?_); rintro e w1 ⟨rfl, rfl⟩))
          go_ret
          rw [bad.out (by simp)]; exact ⟨rfl, HE.out.trans' (ext1 _ _)⟩
        · by_cases hz1 : z < -1099511627776
          · go_wp2_with (first | (go_at_call 32; (with_reducible refine (HD.out _).mono ?_); rintro e w1 ⟨rfl, rfl⟩))
            go_ret
            rw [bad.out (by omega)]; exact ⟨rfl, HE.out.trans' (ext1 _ _)⟩
          · by_cases hz2 : 1099511627776 < z
            · go_wp2_with (first | (go_at_call 32; (with_reducible refine (HD.out _).mono ?_); rintro e w1 ⟨rfl, rfl⟩))
              go_ret
              rw [bad.out (by omega)]; exact ⟨rfl, HE.out.trans' (ext1 _ _)⟩
            · go_wp2_with (first | (go_at_call 32; (with_reducible refine (HD.out _).mono ?_); rintro e w1 ⟨rfl, rfl⟩))
              go_roundw
              case rel =>
                refine ⟨k + 1, by omega, by go_num, fun x hx => ?_, HE.out.trans' (ext1 _ _)⟩
                rw [List.take_succ_eq_append_getElem hkl, List.mem_append, List.mem_singleton] at hx
                rcases hx with hx | rfl
                · exact HQ.out x hx
                · rw [← HS.out, ← HZ.out, ← HR.out]; exact ⟨rfl, by omega, by omega⟩
              case measure => simp [intOf]; omega
      · obtain rfl : k = n := by omega
        have F := Lib.hid (show listB l = true by
          unfold listB; rw [decide_eq_true_iff]
          exact ⟨by rw [HL.out]; omega, fun x hx => HQ.out x (by rw [List.take_of_length_le (by rw [HL.out]; exact Nat.le_refl _)]; exact hx)⟩)
        go_wp2
        go_ret
        rw [F.out]; exact ⟨rfl, HE.out⟩
end Go.Proofs.YtagfbefgcijegaaGreatDoor
