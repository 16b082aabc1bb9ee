/-
  The reference's sets: its IsSum, IsSumSet; sums of sets.
-/
import Derived.Test.YtagfbefgcijegaaGreatDoorLKit
import Derived.Test.YtagfbefgcijegaaGreatDoorTot
import Derived.BigQuiet
namespace Go.Proofs.YtagfbefgcijegaaGreatDoor
open Go Go.RowKit

/-- Of ascending denominations, each once, with amounts above 0. -/
def isB (l : List (ByteArray × Int)) : Bool := decide ((∀ x ∈ l, denomB x.1 = true ∧ 0 < x.2) ∧ l.Pairwise fun a b => keyLt a.1 b.1 = true)
def setB (l : List (ByteArray × Int)) : Bool := listB l && isB l
theorem setB_list {l : List (ByteArray × Int)} (h : setB l = true) : listB l = true := by unfold setB at h; simp at h; exact h.1
theorem setB_strict {l : List (ByteArray × Int)} (h : setB l = true) : l.Pairwise fun a b => keyLt a.1 b.1 = true := by
  unfold setB at h; rw [Bool.and_eq_true] at h
  have := h.2; unfold isB at this; rw [decide_eq_true_iff] at this; exact this.2
theorem setB_pos {l : List (ByteArray × Int)} (h : setB l = true) : ∀ x ∈ l, 0 < x.2 := by
  unfold setB at h; rw [Bool.and_eq_true] at h
  have := h.2; unfold isB at this; rw [decide_eq_true_iff] at this; exact fun x hx => (this.1 x hx).2
theorem setB_sorted {l : List (ByteArray × Int)} (h : setB l = true) : sortedB (l.map Prod.fst) = true := strict_sorted (setB_strict h)
theorem add_ok {l m r : List (ByteArray × Int)} (h : IsAdd (l ++ m) r) (hl : l.length ≤ 8) (hm : m.length ≤ 8) (b1 : ∀ x ∈ l, denomB x.1 = true ∧ -1099511627776 ≤ x.2 ∧ x.2 ≤ 1099511627776) (b2 : ∀ x ∈ m, denomB x.1 = true ∧ -1099511627776 ≤ x.2 ∧ x.2 ≤ 1099511627776)
    (s1 : ∀ x ∈ l, x.1.size ≤ maxLen) (s2 : ∀ x ∈ m, x.1.size ≤ maxLen) : (∀ x ∈ r, x.2.natAbs ≤ 1125899906842624) ∧ (∀ x ∈ r, x.1.size ≤ maxLen) ∧ sortedB (r.map Prod.fst) = true := by
  refine ⟨fun x hx => ?_, isAdd_size h (both s1 s2), isAdd_sorted h⟩
  have h1 := isAdd_bound (m := 1099511627776) h (both (fun x hx => by have := b1 x hx; omega) (fun x hx => by have := b2 x hx; omega)) x hx
  rw [List.length_append] at h1
  omega
theorem add_comm2 {l m r r' : List (ByteArray × Int)} (h : IsAdd (l ++ m) r) (h' : IsAdd (m ++ l) r') : r = r' :=
  sums_unique (isAdd_sums h) (isAdd_sums h') fun s => by rw [totalP_append, totalP_append]; omega
theorem add_assoc2 {a b c ab bc x y : List (ByteArray × Int)} (h1 : IsAdd (a ++ b) ab) (h2 : IsAdd (ab ++ c) x) (h3 : IsAdd (b ++ c) bc) (h4 : IsAdd (a ++ bc) y) : x = y :=
  sums_unique (isAdd_sums h2) (isAdd_sums h4) fun s => by
    rw [totalP_append, totalP_append, (isAdd_sums h1).2.2, (isAdd_sums h3).2.2, totalP_append, totalP_append]; omega
theorem add_all {a b c ab x t : List (ByteArray × Int)} (h1 : IsAdd (a ++ b) ab) (h2 : IsAdd (ab ++ c) x) (h3 : IsAdd (a ++ b ++ c) t) : x = t :=
  sums_unique (isAdd_sums h2) (isAdd_sums h3) fun s => by
    rw [totalP_append, (isAdd_sums h1).2.2, totalP_append _ (a ++ b) c]
/-- The first k are a set. -/
def IsI (l : List (ByteArray × Int)) (k : Nat) : Prop := (∀ j, (hj : j < l.length) → j < k → denomB l[j].1 = true ∧ 0 < l[j].2) ∧ ∀ i j, (hj : j < l.length) → (h : i < j) → j < k → keyLt l[i].1 l[j].1 = true
theorem isI_end {l : List (ByteArray × Int)} (h : IsI l l.length) : isB l = true := by
  unfold isB; rw [decide_eq_true_iff, List.pairwise_iff_getElem]
  refine ⟨fun x hx => ?_, fun i j hi hj hij => h.2 i j hj hij hj⟩
  obtain ⟨j, hj, rfl⟩ := List.getElem_of_mem hx
  exact h.1 j hj hj
theorem isB_bad {l : List (ByteArray × Int)} {k : Nat} (hk : k < l.length) (h : ¬ (denomB l[k].1 = true ∧ 0 < l[k].2)) : isB l = false := by
  unfold isB; rw [decide_eq_false_iff_not]; rintro ⟨h1, _⟩; exact h (h1 _ (List.getElem_mem hk))
theorem isB_bad2 {l : List (ByteArray × Int)} {i j : Nat} (hj : j < l.length) (hij : i < j) (h : keyLt l[i].1 l[j].1 = false) : isB l = false := by
  unfold isB; rw [decide_eq_false_iff_not, List.pairwise_iff_getElem]; rintro ⟨_, h2⟩
  rw [h2 i j (by omega) hj hij] at h; cases h
theorem isI_step {l : List (ByteArray × Int)} {k : Nat} (h : IsI l k) (hk : k < l.length) (h1 : denomB l[k].1 = true) (h2 : 0 < l[k].2) (h3 : ∀ m, (hm : m + 1 = k) → keyLt l[m].1 l[k].1 = true) : IsI l (k + 1) := by
  refine ⟨fun j hj hjk => ?_, fun i j hj hij hjk => ?_⟩
  · by_cases e : j = k
    · subst e; exact ⟨h1, h2⟩
    · exact h.1 j hj (by omega)
  · by_cases e : j = k
    · subst e
      by_cases e2 : i + 1 = j
      · exact h3 i e2
      · obtain ⟨m, rfl⟩ : ∃ m, j = m + 1 := ⟨j - 1, by omega⟩
        exact keyLt_trans (h.2 i m (by omega) (by omega) (by omega)) (h3 m rfl)
    · exact h.2 i j hj hij (by omega)
theorem ext_ad (w : World) (o : Obj) (n : Nat) : Ext w ((w.alloc o).drewN n) := (Ext.alloc' _ _).trans' (Ext.drewN' _ _)

set_option maxRecDepth 100000 in
set_option maxHeartbeats 2000000 in
theorem sIsSum (A : Option Addr) (n c : Nat) (l : List (ByteArray × Int)) (w : World) (hl : l.length = n) (hf : Fits n l) (h : PlainAt w A l) :
    Calls Tryz.prog 41 #[.slice A n c] w (RetE (.bool (isB l)) w) := by
  obtain ⟨hn, hsz⟩ := hf
  have HL := Lib.hid hl; have HP := Lib.hid h; have HSZ := Lib.hid hsz
  clear hl h hsz
  go_enter Tryz.func41, Tryz.ntmps41
  go_wp2
  go_loopw [7] (fun i wr => ∃ (k : Nat), k ≤ n ∧ i = .int .i64 k ∧ IsI l k ∧ Ext w wr) (fun i _ => n - (intOf i).toNat)
  case atStart => exact ⟨0, Nat.zero_le _, rfl, ⟨fun j _ h => absurd h (Nat.not_lt_zero _), fun i j _ _ h => absurd h (Nat.not_lt_zero _)⟩, Ext.refl _⟩
  case round =>
    obtain ⟨k, hk, rfl, hq, hE⟩ := hrel
    have HQ := Lib.hid hq; have HE := Lib.hid hE
    clear hq hE
    by_cases hlt : k < n
    · have hkl : k < l.length := by rw [HL.out]; exact hlt
      obtain ⟨s, hs⟩ : ∃ s, s = l[k].1 := ⟨_, rfl⟩
      obtain ⟨z, hzz⟩ : ∃ z, z = l[k].2 := ⟨_, rfl⟩
      obtain ⟨g, o, hA, hc⟩ := HP.out (by intro e; have := congrArg List.length e; simp at this; rw [this] at hkl; simp at hkl)
      subst hA
      have HC := Lib.hid hc
      have hck := hc k (by simpa using hkl)
      have cs0 : wr.cell? ⟨g, o + k * 2, none⟩ = some (.string s) := HE.out.cell' (by rw [hck.1, hs]; simp [plain])
      have cs1 : wr.cell? ⟨g, o + k * 2 + 1, none⟩ = some (.int .i64 z) := HE.out.cell' (by rw [hck.2, hzz]; simp [plain])
      have HD := Lib.hid (fun W : World => sDenom s W (by rw [hs]; have := HSZ.out _ (List.getElem_mem hkl); omega))
      have HS := Lib.hid hs; have HZ := Lib.hid hzz; clear hs hzz hck hc
      obtain ⟨r, hr⟩ : ∃ r, r = denomB s := ⟨_, rfl⟩
      rw [← hr] at HD
      have HR := Lib.hid hr; clear hr
      cases r
      · have F := Lib.hid (isB_bad hkl (by rw [← HS.out, ← HR.out]; simp))
        go_wp2
        go_quiet ((go_at_call 32; exact Calls.quiet_of_same (HD.out _)))
        go_wp2
        go_ret
        rw [F.out]; exact ⟨rfl, HE.out.trans' (ext_ad _ _ _)⟩
      · by_cases hz1 : z ≤ 0
        · have F := Lib.hid (isB_bad hkl (by rw [← HS.out, ← HZ.out, ← HR.out]; omega))
          have d1 : decide (z ≤ 0) = true := by simpa using hz1
          go_wp2
          go_quiet ((go_at_call 32; exact Calls.quiet_of_same (HD.out _)))
          go_wp2
          go_ret
          rw [F.out]; exact ⟨rfl, HE.out.trans' (ext_ad _ _ _)⟩
        · have d1 : decide (z ≤ 0) = false := by simpa using hz1
          rcases k with _ | m
          · have ST := Lib.hid (isI_step HQ.out hkl (by rw [← HS.out]; exact HR.out.symm) (by rw [← HZ.out]; omega) (fun m hm => absurd hm (by omega)))
            have cs0' : wr.cell? ⟨g, o, none⟩ = some (.string s) := by simpa using cs0
            have cs1' : wr.cell? ⟨g, o + 1, none⟩ = some (.int .i64 z) := by simpa using cs1
            clear cs0 cs1
            go_wp2
            go_quiet ((go_at_call 32; exact Calls.quiet_of_same (HD.out _)))
            go_wp2
            go_roundw
            case rel => exact ⟨0 + 1, by omega, by go_num, ST.out, HE.out.trans' (ext_ad _ _ _)⟩
            case measure => simp [intOf]; omega
          · obtain ⟨t, ht⟩ : ∃ t, t = l[m].1 := ⟨_, rfl⟩
            have ct0 : wr.cell? ⟨g, o + m * 2, none⟩ = some (.string t) := HE.out.cell' (by rw [(HC.out m (by simp; omega)).1, ht]; simp [plain])
            have HT := Lib.hid ht; clear ht
            have gl := cell_lt ct0
            have b0 : (0 : Int) ≤ (m : Int) := by omega
            have hm5 : IntKind.i64.wrap (m : Int) = (m : Int) := by rw [IntKind.wrap_i64]; omega
            have b1 : (m : Int) < (n : Int) := by omega
            cases hlt3 : keyLt t s
            · have F := Lib.hid (isB_bad2 hkl (Nat.lt_succ_self m) (by rw [← HT.out, ← HS.out]; exact hlt3))
              have hb : Op.bytesLess t.toList s.toList = false := hlt3
              clear hlt3
              go_wp2
              go_quiet ((go_at_call 32; exact Calls.quiet_of_same (HD.out _)))
              go_wp2
              go_ret
              rw [F.out]; exact ⟨rfl, HE.out.trans' (ext_ad _ _ _)⟩
            · have h3 : ∀ m', (hm : m' + 1 = m + 1) → keyLt (l[m']'(by omega)).1 l[m + 1].1 = true := by
                intro m' hm
                obtain rfl : m' = m := by omega
                rw [← HT.out, ← HS.out]; exact hlt3
              have ST := Lib.hid (isI_step HQ.out hkl (by rw [← HS.out]; exact HR.out.symm) (by rw [← HZ.out]; omega) h3)
              clear h3
              have hb : Op.bytesLess t.toList s.toList = true := hlt3
              clear hlt3
              go_wp2
              go_quiet ((go_at_call 32; exact Calls.quiet_of_same (HD.out _)))
              go_wp2
              go_roundw
              case rel => exact ⟨m + 1 + 1, by omega, by go_num, ST.out, HE.out.trans' (ext_ad _ _ _)⟩
              case measure => simp [intOf]; omega
    · obtain rfl : k = n := by omega
      have F := Lib.hid (isI_end (l := l) (by rw [HL.out]; exact HQ.out))
      go_wp2
      go_ret
      rw [F.out]; exact ⟨rfl, HE.out⟩

set_option maxRecDepth 100000 in
theorem sIsSumSet (A : Option Addr) (n c : Nat) (l : List (ByteArray × Int)) (w : World) (hl : l.length = n) (hf : Fits n l) (h : PlainAt w A l) :
    Calls Tryz.prog 28 #[.slice A n c] w (RetE (.bool (setB l)) w) := by
  have H1 := Lib.hid (sIsSumList A n c l w hl hf h)
  have H2 := Lib.hid (fun (W : World) (e : Ext w W) => sIsSum A n c l W hl hf (h.ext e))
  clear hl hf h
  obtain ⟨b1, hb1⟩ : ∃ b, b = listB l := ⟨_, rfl⟩
  obtain ⟨b2, hb2⟩ : ∃ b, b = isB l := ⟨_, rfl⟩
  have F := Lib.hid (show setB l = (b1 && b2) by unfold setB; rw [hb1, hb2])
  rw [← hb1] at H1; rw [← hb2] at H2
  clear hb1 hb2
  cases b1
  · go_enter Tryz.func28, Tryz.ntmps28
    go_wp2_with (first | (go_at_call 20; (with_reducible refine H1.out.mono ?_); rintro e w1 ⟨rfl, hE⟩; have HE1 := Lib.hid hE; clear hE))
    go_ret
    rw [F.out]; exact ⟨rfl, HE1.out⟩
  · go_enter Tryz.func28, Tryz.ntmps28
    go_wp2_with (first | (go_at_call 20; (with_reducible refine H1.out.mono ?_); rintro e w1 ⟨rfl, hE⟩; have HE1 := Lib.hid hE; clear hE) | (go_at_call 41; (with_reducible refine (H2.out _ HE1.out).mono ?_); rintro e w2 ⟨rfl, hE⟩; have HE2 := Lib.hid hE; clear hE))
    go_ret
    rw [F.out]; exact ⟨by cases b2 <;> rfl, HE1.out.trans' HE2.out⟩
end Go.Proofs.YtagfbefgcijegaaGreatDoor
