/-
  The contracts of Coins.AmountOf, impl.AmountOf, impl.FindIn, and of the reference's SumOf.
  The contracts of removeZeroCoins, sanitizeCoins, MakeCoins, NewCoins, impl.NewOf.
  The reference's sets: its IsSum, IsSumSet; sums of sets.
  The contract of impl.NewOf; what makes a list a set.
  The contracts of the reference's SumErr and of impl.CoinsErr.
  The contracts of impl.About and of the reference's SumNegative.
-/
import Derived.Test.YtfocejhcdcnnhaaGreatDoorHG
import Derived.Test.YtfocejhcdcnnhaaGreatDoorGY
import Derived.BigQuiet
namespace Go.Proofs.YtfocejhcdcnnhaaGreatDoor
open Go Go.RowKit

theorem own_cap2 {w : World} {base n k : Nat} {E : TypeId} {v : Value} {xs : List Value} (h : w.ownsRow base E k v n xs) : ∃ A c, v = .slice A n c ∧ n ≤ c ∧ c ≤ 9223372036854775807 := by
  rcases h.2 with ⟨rfl, rfl⟩ | ⟨g, cap, _, rfl, _, _, hn, hm, _⟩
  · exact ⟨_, _, rfl, Nat.le_refl _, by decide⟩
  · exact ⟨_, _, rfl, hn, by unfold maxLen at hm; omega⟩

end Go.Proofs.YtfocejhcdcnnhaaGreatDoor

namespace Go.Proofs.YtfocejhcdcnnhaaGreatDoor
open Go Go.RowKit

/-- Coins without those of nothing. -/
def nz (l : List Co) : List Co := l.filter fun x => decide (x.z ≠ 0)
/-- Coins in a row of the call's own handed back. -/
def RetOwn (L : List Co) (w : World) (e : Ending) (w' : World) : Prop := ∃ v, e = .returned v ∧ CoinsOwn w' w.heap.size v L ∧ Ext w w'
theorem sgn_zero (z : Int) : (sgn z == 0) = decide (z = 0) := by
  unfold sgn
  by_cases h1 : z < 0
  · rw [if_pos h1]; have : z ≠ 0 := by omega
    simp [this]
  · rw [if_neg h1]
    by_cases h2 : 0 < z
    · rw [if_pos h2]; have : z ≠ 0 := by omega
      simp [this]
    · rw [if_neg h2]; have : z = 0 := by omega
      simp [this]

set_option maxRecDepth 100000 in
set_option maxHeartbeats 1000000 in
theorem tRemoveZero (A : Option Addr) (n c : Nat) (l : List Co) (w : World) (hl : l.length = n) (hn : n ≤ 100000) (h : CoinsAt w A l) :
    Calls Tryz.prog 129 #[.slice A n c] w (RetOwn (nz l) w) := by
  obtain ⟨i0, hi, hz0, hz1, hz2⟩ := info_parts infoCoin
  have HL := Lib.hid hl; have HP := Lib.hid h
  clear hl h
  go_enter Tryz.func129, Tryz.ntmps129
  go_wp2_with (first | (at_make; refine wpList_make_own _ rfl _ _ 92 rfl w.heap.size 139 i0 _ 2 Tryz.underlying92 hi hz0 hz1 .i64 .i64 (n : Int) n rfl rfl rfl (by rw [hz2]; omega) (by unfold maxLen; omega) (Nat.le_refl _) ?_; intro w0 hown0 hg0; have HO0 := Lib.hid (show CoinsOwn w0 w.heap.size _ [] from ⟨hown0, fun _ h => by cases h⟩); have HE0 := Lib.hid (ext_none hg0); clear hown0 hg0))
  go_loopw [3, 11] (fun v i wr => ∃ (k : Nat) (cs : List Co), k ≤ n ∧ i = .int .i64 k ∧ cs.length ≤ k ∧ cs = nz (l.take k) ∧ CoinsOwn wr w.heap.size v cs ∧ Ext w wr) (fun _ i _ => n - (intOf i).toNat)
  case atStart => exact ⟨0, [], Nat.zero_le _, rfl, Nat.le_refl _, rfl, HO0.out, HE0.out⟩
  case round =>
    obtain ⟨k, cs, hk, rfl, hcl, hcv, hown, hE⟩ := hrel
    have HC := Lib.hid hcl; have HV := Lib.hid hcv; have HO := Lib.hid hown; have HE := Lib.hid hE
    clear hcl hcv hown hE HO0
    by_cases hlt : k < n
    · have hkl : k < l.length := by rw [HL.out]; exact hlt
      obtain ⟨s, hs⟩ : ∃ s, s = l[k].s := ⟨_, rfl⟩
      obtain ⟨b, hb⟩ : ∃ b, b = l[k].b := ⟨_, rfl⟩
      obtain ⟨z, hzz⟩ : ∃ z, z = l[k].z := ⟨_, rfl⟩
      obtain ⟨g, o, hA, hc⟩ := HP.out.1 (by intro e; have := congrArg List.length e; simp at this; rw [this] at hkl; simp at hkl)
      subst hA
      have hck := hc k (by simpa using hkl)
      have cs0 : wr.cell? ⟨g, o + k * 2, none⟩ = some (.string s) := HE.out.cell' (by rw [hck.1, hs]; simp [Co.pair])
      have cs1 : wr.cell? ⟨g, o + k * 2 + 1, none⟩ = some (.pointer (some ⟨b, 0, none⟩)) := HE.out.cell' (by rw [hck.2, hb]; simp [Co.pair])
      have HB := Lib.hid (show BigAt wr b z by rw [hb, hzz]; exact (HP.out.2 _ (List.getElem_mem hkl)).ext HE.out)
      have HX := Lib.hid (show l[k] = ⟨s, b, z⟩ by rw [hs, hb, hzz])
      clear hs hb hzz hck hc
      have HT := Lib.hid (tIsZero s b z _ (HB.out.ext (Ext.alloc' wr (coinBox s b))))
      rw [sgn_zero] at HT
      by_cases h0 : z = 0
      · rw [decide_eq_true h0] at HT
        have H0 := Lib.hid h0; clear h0
        go_wp2_with (first | (go_at_call 114; (with_reducible refine HT.out.mono ?_); rintro e w1 ⟨rfl, hE⟩; have HE1 := Lib.hid ((Ext.alloc' _ _).trans' hE); clear hE))
        go_roundw
        case rel =>
          refine ⟨k + 1, cs, by omega, by go_num, by have := HC.out; omega, ?_, HO.out.ext HE1.out, HE.out.trans' HE1.out⟩
          unfold nz at HV ⊢
          rw [List.take_succ_eq_append_getElem hkl, List.filter_append, HX.out, ← HV.out]; simp [H0.out]
        case measure => simp [intOf]; omega
      · rw [decide_eq_false h0] at HT
        have H0 := Lib.hid h0; clear h0
        go_wp2_with (first | (go_at_call 114; (with_reducible refine HT.out.mono ?_); rintro e w1 ⟨rfl, hE⟩; have kb := (blk_new0 wr 139 [.string s, .pointer (some ⟨b, 0, none⟩)]).ext hE; have c0 : w1.cell? ⟨wr.heap.size, 0, none⟩ = some (.string s) := (kb.cell 0).trans rfl; have c1 : w1.cell? ⟨wr.heap.size, 1, none⟩ = some (.pointer (some ⟨b, 0, none⟩)) := (kb.cell 1).trans rfl; have HE1 := Lib.hid ((Ext.alloc' _ _).trans' hE); clear hE kb) | (at_builtin; refine wpList_append_own_at _ rfl (.tmp 18) (.tmp 20) 92 rfl w.heap.size 139 i0 _ 2 24 Tryz.underlying92 hi hz0 hz1 hz2 rfl (by decide) u3 cs.length (flat2 (cs.map Co.pair)) rfl (owns_ext (HO.out.ext HE1.out).1 (ext1 _ _)) ⟨w1.heap.size, 0, none⟩ 1 1 [.string s, .pointer (some ⟨b, 0, none⟩)] rfl rfl (cell_two_new _ _ _ _) (two_one _ _ rfl rfl) (by have := HC.out; unfold maxLen; omega) (by have := HC.out; omega) (by have := HE.out.size; have := HE1.out.size; simp; omega) ?_; intro v' w2 hown hgrow _ _; have R := Lib.hid (coins_push ((HO.out.ext HE1.out).ext (ext1 _ _)) ((HB.out.ext HE1.out).ext (ext1 _ _)) ((HE.out.trans' HE1.out).trans' (ext1 _ _)) hown hgrow); clear hown hgrow))
        go_roundw
        case rel =>
          refine ⟨k + 1, cs ++ [⟨s, b, z⟩], by omega, by go_num, by have := HC.out; simp; omega, ?_, R.out.1, R.out.2⟩
          unfold nz at HV ⊢
          rw [List.take_succ_eq_append_getElem hkl, List.filter_append, HX.out, ← HV.out]; simp [H0.out]
        case measure => simp [intOf]; omega
    · obtain rfl : k = n := by omega
      go_wp2
      go_ret
      have hv : cs = nz l := by rw [HV.out, List.take_of_length_le (by rw [HL.out]; exact Nat.le_refl _)]
      exact ⟨_, rfl, hv ▸ HO.out, HE.out⟩

/-- Sorted, and without coins of nothing. -/
def RetSan (l : List Co) (w : World) (e : Ending) (w' : World) : Prop := ∃ v L, e = .returned v ∧ CoinsOwn w' w.heap.size v L ∧ L.Perm (nz l) ∧ (L.Pairwise fun a b => le (Co.s a) (Co.s b)) ∧ Ext w w'

set_option maxRecDepth 100000 in
set_option maxHeartbeats 1000000 in
theorem tSanitize (A : Option Addr) (n c : Nat) (l : List Co) (w : World) (hl : l.length = n) (hn : n ≤ 12) (h : CoinsAt w A l) :
    Calls Tryz.prog 97 #[.slice A n c] w (RetSan l w) := by
  have H1 := Lib.hid (tRemoveZero A n c l w hl (by omega) h)
  have HN := Lib.hid (show (nz l).length ≤ 12 by have : (nz l).length ≤ l.length := List.length_filter_le _ _; omega)
  clear hl h
  go_enter Tryz.func97, Tryz.ntmps97
  go_wp2_with (fail)
  go_at_call 129
  refine H1.out.mono ?_
  rintro e w1 ⟨v, rfl, hown, hE⟩
  obtain ⟨A1, c1, rfl⟩ := coins_shape hown
  have HO := Lib.hid hown; have HE := Lib.hid hE
  clear hown hE
  obtain ⟨m, hm⟩ : ∃ m, m = (nz l).length := ⟨_, rfl⟩
  rw [← hm] at HO ⊢
  have HM := Lib.hid hm; clear hm
  by_cases h0 : m = 0
  · have HZ := Lib.hid (show nz l = [] from List.length_eq_zero_iff.1 (by rw [← HM.out]; exact h0))
    subst h0
    go_wp2
    go_ret
    refine ⟨_, [], rfl, ⟨⟨rfl, Or.inr ⟨w1.heap.size, 0, #[], rfl, HE.out.size, heap_alloc_new _ _, Nat.le_refl _, Nat.zero_le _, rfl, rfl⟩⟩, fun _ h => by cases h⟩, by rw [HZ.out], List.Pairwise.nil, HE.out.trans' (Ext.alloc' _ _)⟩
  · have hd : ((m : Int) == 0) = false := by simp; omega
    clear h0
    go_wp2_with (fail)
    go_at_call 130
    refine (tSortRow HO.out HN.out).mono ?_
    rintro e w2 ⟨L, rfl, ho, hp, hs, hg⟩
    have HR := Lib.hid (And.intro ho (And.intro hp (And.intro hs (grown_old HO.out hg HE.out (Nat.le_refl _)))))
    clear ho hp hs hg
    go_wp2
    go_ret
    exact ⟨_, L, rfl, HR.out.1, HR.out.2.1, HR.out.2.2.1, HR.out.2.2.2⟩

/-- A set, or that it is none. -/
def RetMakeC (l : List Co) (w : World) (e : Ending) (w' : World) : Prop :=
  ∃ L : List Co, L.Perm (nz l) ∧ (L.Pairwise fun a b => le (Co.s a) (Co.s b)) ∧ Ext w w' ∧ ((ErrIs (L.map Co.val) none ∧ ∃ v, e = .returned (.tuple #[v, .nilIface]) ∧ CoinsOwn w' w.heap.size v L) ∨ (∃ t, ErrIs (L.map Co.val) (some t)) ∧ ∃ b, e = .returned (.tuple #[.slice none 0 0, .iface 161 (.pointer (some ⟨b, 0, none⟩))]))
/-- "invalid coin set". -/
abbrev invSet : ByteArray := ⟨#[105, 110, 118, 97, 108, 105, 100, 32, 99, 111, 105, 110, 32, 115, 101, 116]⟩

set_option maxRecDepth 100000 in
set_option maxHeartbeats 1000000 in
theorem tMakeCoins (A : Option Addr) (n c : Nat) (l : List Co) (w : World) (hl : l.length = n) (hn : n ≤ 12) (h : CoinsAt w A l) (hsz : ∀ x ∈ l, x.s.size ≤ 9223372036854775807) :
    Calls Tryz.prog 59 #[.slice A n c] w (RetMakeC l w) := by
  have H1 := Lib.hid (tSanitize A n c l w hl hn h)
  have HN := Lib.hid (show (nz l).length ≤ 12 by have : (nz l).length ≤ l.length := List.length_filter_le _ _; omega)
  have HSZ := Lib.hid hsz
  clear hl h hsz
  go_enter Tryz.func59, Tryz.ntmps59
  go_wp2_with (fail)
  go_at_call 97
  refine H1.out.mono ?_
  rintro e w1 ⟨v, L, rfl, hown, hp, hs, hE⟩
  obtain ⟨A1, c1, rfl, hc1, hc2⟩ := own_cap2 hown.1
  have HO := Lib.hid hown; have HE := Lib.hid hE; have HPS := Lib.hid (And.intro hp hs); have HC := Lib.hid (And.intro hc1 hc2)
  have HSL := Lib.hid (fun x (hx : x ∈ L) => HSZ.out x (List.mem_filter.1 (hp.mem_iff.1 hx)).1)
  have HLL := Lib.hid (show L.length ≤ 12 by rw [hp.length_eq]; exact HN.out)
  clear hown hE hp hs hc1 hc2
  go_wp2_with (fail)
  go_at_call 98
  refine (tValidate A1 L.length c1 L _ rfl (by have := HLL.out; omega) HC.out.1 HC.out.2 (own_at HO.out).1 HSL.out).mono ?_
  rintro e w2 ⟨o, ho, hr⟩
  have HOO := Lib.hid ho; clear ho
  cases o with
  | none =>
    obtain ⟨rfl, hE⟩ := hr
    have HE2 := Lib.hid hE; clear hE
    go_wp2
    go_ret2
    exact ⟨L, HPS.out.1, HPS.out.2, HE.out.trans' HE2.out, Or.inl ⟨HOO.out, _, rfl, HO.out.ext HE2.out⟩⟩
  | some t =>
    obtain ⟨b, rfl, hB, hE⟩ := hr
    have HE2 := Lib.hid hE; clear hE hB
    go_wp2_with (first | (go_at_call 96; refine (eNew invSet _).mono ?_; rintro e w3 ⟨eb, rfl, hB, hE⟩; have HE3 := Lib.hid hE; clear hB hE))
    go_ret2
    exact ⟨L, HPS.out.1, HPS.out.2, (HE.out.trans' HE2.out).trans' HE3.out, Or.inr ⟨⟨t, HOO.out⟩, eb, rfl⟩⟩
end Go.Proofs.YtfocejhcdcnnhaaGreatDoor

namespace Go.Proofs.YtfocejhcdcnnhaaGreatDoor
open Go Go.RowKit

/-- Of ascending denominations, each once, with amounts above 0. -/
def isB (l : List (ByteArray × Int)) : Bool := decide ((∀ x ∈ l, denomB x.1 = true ∧ 0 < x.2) ∧ l.Pairwise fun a b => keyLt a.1 b.1 = true)
def setB (l : List (ByteArray × Int)) : Bool := listB l && isB l
/-- The first k are a set. -/
def IsI (l : List (ByteArray × Int)) (k : Nat) : Prop := (∀ j, (hj : j < l.length) → j < k → denomB l[j].1 = true ∧ 0 < l[j].2) ∧ ∀ i j, (hj : j < l.length) → (h : i < j) → j < k → keyLt l[i].1 l[j].1 = true
theorem isI_end {l : List (ByteArray × Int)} (h : IsI l l.length) : isB l = true := by
  unfold isB; rw [decide_eq_true_iff, List.pairwise_iff_getElem]
  refine ⟨fun x hx => ?_, fun i j hi hj hij => h.2 i j hj hij hj⟩
  obtain ⟨j, hj, rfl⟩ := List.getElem_of_mem hx
  exact h.1 j hj hj
theorem isI_step {l : List (ByteArray × Int)} {k : Nat} (h : IsI l k) (hk : k < l.length) (h1 : denomB l[k].1 = true) (h2 : 0 < l[k].2) (h3 : ∀ m, (hm : m + 1 = k) → keyLt l[m].1 l[k].1 = true) : IsI l (k + 1) := by
  refine ⟨fun j hj hjk => ?_, fun i j hj hij hjk => ?_⟩
  · by_cases e : j = k
    · subst e; exact ⟨h1, h2⟩
    · exact h.1 j hj (by omega)
  · by_cases e : j = k
    · subst e
      by_cases e2 : i + 1 = j
      · exact h3 i e2
      · obtain ⟨m, rfl⟩ : ∃ m, j = m + 1 := ⟨j - 1, by omega⟩
        exact keyLt_trans (h.2 i m (by omega) (by omega) (by omega)) (h3 m rfl)
    · exact h.2 i j hj hij (by omega)
end Go.Proofs.YtfocejhcdcnnhaaGreatDoor

namespace Go.Proofs.YtfocejhcdcnnhaaGreatDoor
open Go Go.RowKit

/-- A list is a set just if nothing is wrong with it. -/
theorem isB_err {l : List (ByteArray × Int)} : ErrIs l none ↔ isB l = true := by
  constructor
  · intro h
    have hz : ∀ j, (hj : j < l.length) → denomB l[j].1 = true ∧ 0 < l[j].2 := by
      intro j hj
      have := h j
      unfold errAt at this
      rw [List.getElem?_eq_getElem hj] at this
      simp only at this
      unfold errOne at this
      split at this
      · cases this
      · rename_i hd
        refine ⟨by simpa using hd, ?_⟩
        split at this
        · split at this
          · cases this
          · split at this
            · cases this
            · split at this
              · cases this
              · omega
        · split at this
          · cases this
          · omega
    have hs : ∀ k, (hk : k + 1 < l.length) → keyLt l[k].1 l[k + 1].1 = true := by
      intro k hk
      have := h (k + 1)
      rw [errAt_succ hk] at this
      unfold errOne at this
      split at this
      · cases this
      · simp only at this
        split at this
        · cases this
        · rename_i h1
          split at this
          · cases this
          · rename_i h2
            exact key_lt_of_le_ne (by unfold le; simpa using h1) (fun e => h2 e.symm)
    have : ∀ k, k ≤ l.length → IsI l k := by
      intro k
      induction k with
      | zero => exact fun _ => ⟨fun j _ h => absurd h (Nat.not_lt_zero _), fun i j _ _ h => absurd h (Nat.not_lt_zero _)⟩
      | succ k ih => exact fun hk => isI_step (ih (by omega)) (by omega) (hz k (by omega)).1 (hz k (by omega)).2 (fun m hm => by subst hm; exact hs m (by omega))
    exact isI_end (this _ (Nat.le_refl _))
  · intro h j
    unfold isB at h; rw [decide_eq_true_iff, List.pairwise_iff_getElem] at h
    rcases Nat.lt_or_ge j l.length with hj | hj
    · have hx := h.1 _ (List.getElem_mem hj)
      cases j with
      | zero => rw [errAt_zero hj]; unfold errOne; rw [if_neg (by rw [hx.1]; simp)]; exact if_neg (by omega)
      | succ k =>
        have hlt := h.2 k (k + 1) (by omega) hj (by omega)
        rw [errAt_succ hj]; unfold errOne; rw [if_neg (by rw [hx.1]; simp)]
        show (if keyLt _ _ = true then _ else _) = _
        rw [if_neg (by rw [keyLt_asymm hlt]; simp), if_neg (fun e => by rw [← e, keyLt_irrefl] at hlt; cases hlt), if_neg (by omega)]
    · exact errAt_out hj
end Go.Proofs.YtfocejhcdcnnhaaGreatDoor

namespace Go.Proofs.YtfocejhcdcnnhaaGreatDoor
open Go Go.RowKit

end Go.Proofs.YtfocejhcdcnnhaaGreatDoor

namespace Go.Proofs.YtfocejhcdcnnhaaGreatDoor
open Go Go.RowKit

end Go.Proofs.YtfocejhcdcnnhaaGreatDoor
