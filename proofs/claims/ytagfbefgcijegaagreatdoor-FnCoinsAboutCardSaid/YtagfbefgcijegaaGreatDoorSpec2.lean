/-
  Contracts of the reference's SumSame and SumWithout.
-/
import Derived.Test.YtagfbefgcijegaaGreatDoorSpec1
import Derived.Test.YtagfbefgcijegaaGreatDoorOrd
namespace Go.Proofs.YtagfbefgcijegaaGreatDoor
open Go Go.RowKit

theorem take_eq_false {l l' : List (ByteArray × Int)} {k : Nat} (h : k < l.length) (h' : k < l'.length) (hne : l[k] ≠ l'[k]) : decide (l = l') = false := by
  rw [decide_eq_false_iff_not]; rintro rfl; exact hne rfl
theorem toList_ne {s t : ByteArray} (h : s ≠ t) : ¬ s.toList = t.toList := fun e => h (key_ext e)

set_option maxRecDepth 100000 in
set_option maxHeartbeats 1000000 in
theorem sSumSame (A B : Option Addr) (n c m d : Nat) (l l' : List (ByteArray × Int)) (w : World) (hl : l.length = n) (hl' : l'.length = m) (hn : n ≤ 1000000) (hm : m ≤ 1000000) (h : PlainAt w A l) (h' : PlainAt w B l') :
    Calls Tryz.prog 25 #[.slice A n c, .slice B m d] w (RetQ (.bool (decide (l = l'))) w) := by
  have HL := Lib.hid hl; have HP := Lib.hid h; have HL' := Lib.hid hl'; have HP' := Lib.hid h'
  clear hl h hl' h'
  by_cases hnm : n = m
  · subst hnm
    go_enter Tryz.func25, Tryz.ntmps25
    go_wp2
    go_loopw [13] (fun i wr => ∃ (k q : Nat), k ≤ n ∧ i = .int .i64 k ∧ wr = w.drewN q ∧ l.take k = l'.take k) (fun i _ => n - (intOf i).toNat)
    case atStart => exact ⟨0, 0, Nat.zero_le _, rfl, rfl, rfl⟩
    case round =>
      obtain ⟨k, q, hk, rfl, rfl, hq⟩ := hrel
      have HQ := Lib.hid hq; clear hq
      by_cases hlt : k < n
      · have hkl : k < l.length := by rw [HL.out]; exact hlt
        have hkl' : k < l'.length := by rw [HL'.out]; exact hlt
        obtain ⟨s, hs⟩ : ∃ s, s = l[k].1 := ⟨_, rfl⟩
        obtain ⟨z, hz⟩ : ∃ z, z = l[k].2 := ⟨_, rfl⟩
        obtain ⟨t, ht⟩ : ∃ t, t = l'[k].1 := ⟨_, rfl⟩
        obtain ⟨y, hy⟩ : ∃ y, y = l'[k].2 := ⟨_, rfl⟩
        obtain ⟨g, o, hA, hc⟩ := HP.out (by intro e; have := congrArg List.length e; simp at this; rw [this] at hkl; simp at hkl)
        obtain ⟨g', o', hB, hc'⟩ := HP'.out (by intro e; have := congrArg List.length e; simp at this; rw [this] at hkl'; simp at hkl')
        subst hA; subst hB
        have hck := hc k (by simpa using hkl)
        have hck' := hc' k (by simpa using hkl')
        have cs0 : w.cell? ⟨g, o + k * 2, none⟩ = some (.string s) := by rw [hck.1, hs]; simp [plain]
        have cs1 : w.cell? ⟨g, o + k * 2 + 1, none⟩ = some (.int .i64 z) := by rw [hck.2, hz]; simp [plain]
        have ct0 : w.cell? ⟨g', o' + k * 2, none⟩ = some (.string t) := by rw [hck'.1, ht]; simp [plain]
        have ct1 : w.cell? ⟨g', o' + k * 2 + 1, none⟩ = some (.int .i64 y) := by rw [hck'.2, hy]; simp [plain]
        have HE := Lib.hid (show l[k] = (s, z) by rw [hs, hz])
        have HE' := Lib.hid (show l'[k] = (t, y) by rw [ht, hy])
        clear hs hz ht hy hck hck' hc hc'
        have b0 : (0 : Int) ≤ (k : Int) := by omega
        have b1 : (k : Int) < (n : Int) := by omega
        by_cases hst : s = t
        · subst hst
          by_cases hzy : z = y
          · subst hzy
            go_wp2
            go_quiet (fail)
            go_wp2
            go_roundw
            case rel => exact ⟨k + 1, _, by omega, by go_num, rfl, by rw [List.take_succ_eq_append_getElem hkl, List.take_succ_eq_append_getElem hkl', HQ.out, HE.out, HE'.out]⟩
            case measure => simp [intOf]; omega
          · have F := Lib.hid (take_eq_false hkl hkl' (by rw [HE.out, HE'.out]; intro e; exact hzy (Prod.mk.inj e).2))
            go_wp2
            go_quiet (fail)
            go_wp2
            go_ret
            rw [F.out]; exact ⟨rfl, by first | exact dr1 _ _ | exact dr2 _ _ _⟩
        · have F := Lib.hid (take_eq_false hkl hkl' (by rw [HE.out, HE'.out]; intro e; exact hst (Prod.mk.inj e).1))
          have hne := toList_ne hst
          go_wp2
          go_quiet (fail)
          go_wp2
          go_ret
          rw [F.out]; exact ⟨rfl, by first | exact dr1 _ _ | exact dr2 _ _ _⟩
      · obtain rfl : k = n := by omega
        have F := Lib.hid (show decide (l = l') = true by
          have := HQ.out
          rw [List.take_of_length_le (by rw [HL.out]; exact Nat.le_refl _), List.take_of_length_le (by rw [HL'.out]; exact Nat.le_refl _)] at this
          simpa using this)
        go_wp2
        go_ret
        rw [F.out]; exact ⟨rfl, by first | exact dr1 _ _ | exact dr2 _ _ _⟩
  · have F := Lib.hid (show decide (l = l') = false by rw [decide_eq_false_iff_not]; rintro rfl; exact hnm (HL.out.symm.trans HL'.out))
    have d1 : ((n : Int) == (m : Int)) = false := by simp; omega
    go_enter Tryz.func25, Tryz.ntmps25
    go_wp2
    go_ret
    rw [F.out]; exact ⟨rfl, dr0 _⟩

set_option maxRecDepth 100000 in
set_option maxHeartbeats 1000000 in
theorem sSumWithout (A : Option Addr) (n c : Nat) (l : List (ByteArray × Int)) (w : World) (hl : l.length = n) (hn : n ≤ 1000000) (h : PlainAt w A l) :
    Calls Tryz.prog 39 #[.slice A n c] w (RetPlain 43 (l.filter fun x => x.2 ≠ 0) w) := by
  obtain ⟨i0, hi, hz0, hz1, hz2⟩ := info_parts infoSum
  have HL := Lib.hid hl; have HP := Lib.hid h
  clear hl h
  go_enter Tryz.func39, Tryz.ntmps39
  go_wp2
  go_loopw [3, 8] (fun v i wr => ∃ (k : Nat) (cs : List (ByteArray × Int)), k ≤ n ∧ i = .int .i64 k ∧ cs.length ≤ k ∧ cs = (l.take k).filter (fun x => x.2 ≠ 0) ∧ PlainOwn wr w.heap.size 43 v cs ∧ Ext w wr) (fun _ i _ => n - (intOf i).toNat)
  case atStart => exact ⟨0, [], Nat.zero_le _, rfl, Nat.le_refl _, rfl, PlainOwn.nil _ _ _, Ext.refl _⟩
  case round =>
    obtain ⟨k, cs, hk, rfl, hcl, hcv, hown, hE⟩ := hrel
    have HV := Lib.hid hcv; have HO := Lib.hid hown; have HE := Lib.hid hE
    clear hcv hown hE
    by_cases hlt : k < n
    · have hkl : k < l.length := by rw [HL.out]; exact hlt
      obtain ⟨s, hs⟩ : ∃ s, s = l[k].1 := ⟨_, rfl⟩
      obtain ⟨z, hzz⟩ : ∃ z, z = l[k].2 := ⟨_, rfl⟩
      obtain ⟨g, o, hA, hc⟩ := HP.out (by intro e; have := congrArg List.length e; simp at this; rw [this] at hkl; simp at hkl)
      subst hA
      have hck := hc k (by simpa using hkl)
      have cs0 : wr.cell? ⟨g, o + k * 2, none⟩ = some (.string s) := HE.out.cell' (by rw [hck.1, hs]; simp [plain])
      have cs1 : wr.cell? ⟨g, o + k * 2 + 1, none⟩ = some (.int .i64 z) := HE.out.cell' (by rw [hck.2, hzz]; simp [plain])
      have HEL := Lib.hid (show l[k] = (s, z) by rw [hs, hzz])
      clear hs hzz hck hc
      by_cases hz0' : z = 0
      · have d1 : (z == 0) = true := by simpa using hz0'
        go_wp2
        go_roundw
        case rel =>
          refine ⟨k + 1, cs, by omega, by go_num, by omega, ?_, HO.out.ext (ext1 _ _), HE.out.trans' (ext1 _ _)⟩
          rw [List.take_succ_eq_append_getElem hkl, List.filter_append, HEL.out, HV.out]; simp [hz0']
        case measure => simp [intOf]; omega
      · have d1 : (z == 0) = false := by simpa using hz0'
        go_wp2_with (first | (at_builtin; refine wpList_append_own_at _ rfl (.tmp 15) (.tmp 17) 22 rfl w.heap.size 43 i0 _ 2 24 Tryz.underlying22 hi hz0 hz1 hz2 rfl (by decide) u3 cs.length (flat2 (cs.map plain)) rfl (owns_ext HO.out (ext2 _ _ _)) ⟨wr.heap.size + 1, 0, none⟩ 1 1 [.string s, .int .i64 z] rfl rfl (two_new1 _ _ _ _ _) (two_one _ _ rfl rfl) (by unfold maxLen; omega) (by omega) (by have := HE.out.size; simp; omega) ?_; intro v' w2 hown hgrow _ _; have R := Lib.hid (plain_push (HO.out.ext (ext2 _ (.cells #[.string s, .int .i64 z] 43) (.cells #[.string s, .int .i64 z] 43))) (HE.out.trans' (ext2 _ _ _)) hown hgrow); clear hown hgrow))
        go_roundw
        case rel =>
          refine ⟨k + 1, cs ++ [(s, z)], by omega, by go_num, by simp; omega, ?_, R.out.1, R.out.2⟩
          rw [List.take_succ_eq_append_getElem hkl, List.filter_append, HEL.out, HV.out]; simp [hz0']
        case measure => simp [intOf]; omega
    · obtain rfl : k = n := by omega
      go_wp2
      go_ret
      have hv : cs = l.filter (fun x => x.2 ≠ 0) := by rw [HV.out, List.take_of_length_le (by rw [HL.out]; exact Nat.le_refl _)]
      exact ⟨_, rfl, hv ▸ HO.out, HE.out⟩
end Go.Proofs.YtagfbefgcijegaaGreatDoor
