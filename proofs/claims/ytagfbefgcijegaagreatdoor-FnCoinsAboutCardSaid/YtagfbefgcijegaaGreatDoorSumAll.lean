/-
  The contract of the reference's SumAll, with the closures of the law FnCoinsAbout.
-/
import Derived.Test.YtagfbefgcijegaaGreatDoorFacts
namespace Go.Proofs.YtagfbefgcijegaaGreatDoor
open Go Go.RowKit

set_option maxRecDepth 100000 in
theorem about1 (s : ByteArray) (z : Int) (w : World) : Calls Tryz.prog 47 #[.agg #[.string s, .int .i64 z]] w (RetE (.bool (decide (z = 0))) w) := by
  obtain ⟨r, hr⟩ : ∃ r, r = decide (z = 0) := ⟨_, rfl⟩
  have HR := Lib.hid hr
  rw [← hr]
  go_enter Tryz.func47, Tryz.ntmps47
  go_wp2
  go_ret
  exact ⟨by rw [HR.out] <;> rfl, Ext.alloc' _ _⟩

set_option maxRecDepth 100000 in
theorem about2 (s : ByteArray) (z : Int) (w : World) : Calls Tryz.prog 48 #[.agg #[.string s, .int .i64 z]] w (RetE (.bool (decide (0 < z))) w) := by
  obtain ⟨r, hr⟩ : ∃ r, r = decide (0 < z) := ⟨_, rfl⟩
  have HR := Lib.hid hr
  rw [← hr]
  go_enter Tryz.func48, Tryz.ntmps48
  go_wp2
  go_ret
  exact ⟨by rw [HR.out] <;> rfl, Ext.alloc' _ _⟩

set_option maxRecDepth 100000 in
set_option maxHeartbeats 1000000 in
theorem sAllZero (A : Option Addr) (n c : Nat) (l : List (ByteArray × Int)) (w : World) (hl : l.length = n) (hn : n ≤ 1000000) (h : PlainAt w A l) :
    Calls Tryz.prog 46 #[.slice A n c, .func (.func 47) #[] #[]] w (RetE (.bool (l.all fun x => decide (x.2 = 0))) w) := by
  have HL := Lib.hid hl; have HP := Lib.hid h
  clear hl h
  go_enter Tryz.func46, Tryz.ntmps46
  go_wp2
  go_loopw [9] (fun i wr => ∃ k : Nat, k ≤ n ∧ i = .int .i64 k ∧ (∀ x ∈ l.take k, decide (x.2 = 0) = true) ∧ Ext w wr) (fun i _ => n - (intOf i).toNat)
  case atStart => exact ⟨0, Nat.zero_le _, rfl, (fun x hx => by simp at hx), Ext.refl _⟩
  case round =>
    obtain ⟨k, hk, rfl, hq, hE⟩ := hrel
    have HQ := Lib.hid hq; have HE := Lib.hid hE
    clear hq hE
    by_cases hlt : k < n
    · have hkl : k < l.length := by rw [HL.out]; exact hlt
      obtain ⟨s, hs⟩ : ∃ s, s = l[k].1 := ⟨_, rfl⟩
      obtain ⟨z, hzz⟩ : ∃ z, z = l[k].2 := ⟨_, rfl⟩
      obtain ⟨g, o, hA, hc⟩ := HP.out (by intro e; have := congrArg List.length e; simp at this; rw [this] at hkl; simp at hkl)
      subst hA
      have hck := hc k (by simpa using hkl)
      have cs0 : wr.cell? ⟨g, o + k * 2, none⟩ = some (.string s) := HE.out.cell' (by rw [hck.1, hs]; simp [plain])
      have cs1 : wr.cell? ⟨g, o + k * 2 + 1, none⟩ = some (.int .i64 z) := HE.out.cell' (by rw [hck.2, hzz]; simp [plain])
      have HX := Lib.hid (show l[k] = (s, z) by rw [hs, hzz]); have HM := Lib.hid (List.getElem_mem hkl)
      clear hs hzz hck hc
      have HC := Lib.hid (fun W : World => about1 s z W)
      obtain ⟨r, hr⟩ : ∃ r, r = (fun x : ByteArray × Int => decide (x.2 = 0)) (s, z) := ⟨_, rfl⟩
      rw [show (decide (z = 0)) = r from hr.symm] at HC
      have HR := Lib.hid hr; clear hr
      cases r
      · have F := Lib.hid (show (l.all fun x => decide (x.2 = 0)) = false by rw [List.all_eq_false]; exact ⟨l[k], HM.out, by rw [HX.out]; have := HR.out; simp only at this; rw [← this]; simp⟩)
        go_wp2_with (first | (go_at_call 47; (with_reducible refine (HC.out _).mono ?_); rintro e w1 ⟨rfl, hE⟩; have HE1 := Lib.hid hE; clear hE))
        go_ret
        rw [F.out]; exact ⟨rfl, (HE.out.trans' (Ext.alloc' _ _)).trans' HE1.out⟩
      · go_wp2_with (first | (go_at_call 47; (with_reducible refine (HC.out _).mono ?_); rintro e w1 ⟨rfl, hE⟩; have HE1 := Lib.hid hE; clear hE))
        go_roundw
        case rel =>
          refine ⟨k + 1, by omega, by go_num, fun x hx => ?_, (HE.out.trans' (Ext.alloc' _ _)).trans' HE1.out⟩
          rw [List.take_succ_eq_append_getElem hkl, List.mem_append, List.mem_singleton] at hx
          rcases hx with hx | rfl
          · exact HQ.out x hx
          · rw [HX.out]; exact HR.out.symm
        case measure => simp [intOf]; omega
    · obtain rfl : k = n := by omega
      have F := Lib.hid (show (l.all fun x => decide (x.2 = 0)) = true by
        have := HQ.out
        rw [List.take_of_length_le (by rw [HL.out]; exact Nat.le_refl _)] at this
        rw [List.all_eq_true]; exact this)
      go_wp2
      go_ret
      rw [F.out]; exact ⟨rfl, HE.out⟩

set_option maxRecDepth 100000 in
set_option maxHeartbeats 1000000 in
theorem sAllPos (A : Option Addr) (n c : Nat) (l : List (ByteArray × Int)) (w : World) (hl : l.length = n) (hn : n ≤ 1000000) (h : PlainAt w A l) :
    Calls Tryz.prog 46 #[.slice A n c, .func (.func 48) #[] #[]] w (RetE (.bool (l.all fun x => decide (0 < x.2))) w) := by
  have HL := Lib.hid hl; have HP := Lib.hid h
  clear hl h
  go_enter Tryz.func46, Tryz.ntmps46
  go_wp2
  go_loopw [9] (fun i wr => ∃ k : Nat, k ≤ n ∧ i = .int .i64 k ∧ (∀ x ∈ l.take k, decide (0 < x.2) = true) ∧ Ext w wr) (fun i _ => n - (intOf i).toNat)
  case atStart => exact ⟨0, Nat.zero_le _, rfl, (fun x hx => by simp at hx), Ext.refl _⟩
  case round =>
    obtain ⟨k, hk, rfl, hq, hE⟩ := hrel
    have HQ := Lib.hid hq; have HE := Lib.hid hE
    clear hq hE
    by_cases hlt : k < n
    · have hkl : k < l.length := by rw [HL.out]; exact hlt
      obtain ⟨s, hs⟩ : ∃ s, s = l[k].1 := ⟨_, rfl⟩
      obtain ⟨z, hzz⟩ : ∃ z, z = l[k].2 := ⟨_, rfl⟩
      obtain ⟨g, o, hA, hc⟩ := HP.out (by intro e; have := congrArg List.length e; simp at this; rw [this] at hkl; simp at hkl)
      subst hA
      have hck := hc k (by simpa using hkl)
      have cs0 : wr.cell? ⟨g, o + k * 2, none⟩ = some (.string s) := HE.out.cell' (by rw [hck.1, hs]; simp [plain])
      have cs1 : wr.cell? ⟨g, o + k * 2 + 1, none⟩ = some (.int .i64 z) := HE.out.cell' (by rw [hck.2, hzz]; simp [plain])
      have HX := Lib.hid (show l[k] = (s, z) by rw [hs, hzz]); have HM := Lib.hid (List.getElem_mem hkl)
      clear hs hzz hck hc
      have HC := Lib.hid (fun W : World => about2 s z W)
      obtain ⟨r, hr⟩ : ∃ r, r = (fun x : ByteArray × Int => decide (0 < x.2)) (s, z) := ⟨_, rfl⟩
      rw [show (decide (0 < z)) = r from hr.symm] at HC
      have HR := Lib.hid hr; clear hr
      cases r
      · have F := Lib.hid (show (l.all fun x => decide (0 < x.2)) = false by rw [List.all_eq_false]; exact ⟨l[k], HM.out, by rw [HX.out]; have := HR.out; simp only at this; rw [← this]; simp⟩)
        go_wp2_with (first | (go_at_call 48; (with_reducible refine (HC.out _).mono ?_); rintro e w1 ⟨rfl, hE⟩; have HE1 := Lib.hid hE; clear hE))
        go_ret
        rw [F.out]; exact ⟨rfl, (HE.out.trans' (Ext.alloc' _ _)).trans' HE1.out⟩
      · go_wp2_with (first | (go_at_call 48; (with_reducible refine (HC.out _).mono ?_); rintro e w1 ⟨rfl, hE⟩; have HE1 := Lib.hid hE; clear hE))
        go_roundw
        case rel =>
          refine ⟨k + 1, by omega, by go_num, fun x hx => ?_, (HE.out.trans' (Ext.alloc' _ _)).trans' HE1.out⟩
          rw [List.take_succ_eq_append_getElem hkl, List.mem_append, List.mem_singleton] at hx
          rcases hx with hx | rfl
          · exact HQ.out x hx
          · rw [HX.out]; exact HR.out.symm
        case measure => simp [intOf]; omega
    · obtain rfl : k = n := by omega
      have F := Lib.hid (show (l.all fun x => decide (0 < x.2)) = true by
        have := HQ.out
        rw [List.take_of_length_le (by rw [HL.out]; exact Nat.le_refl _)] at this
        rw [List.all_eq_true]; exact this)
      go_wp2
      go_ret
      rw [F.out]; exact ⟨rfl, HE.out⟩
end Go.Proofs.YtagfbefgcijegaaGreatDoor
