/-
  The closures of FnCoinsOrder and FnCoinsBounds; plain laws of what is at most.
-/
import Derived.Test.YtagfbefgcijegaaGreatDoorCompare
import Derived.Test.YtagfbefgcijegaaGreatDoorGE
namespace Go.Proofs.YtagfbefgcijegaaGreatDoor
open Go Go.RowKit

theorem isB_posP {r : List (ByteArray × Int)} (h : isB r = true) : ∀ x ∈ r, 0 < x.2 := fun x hx => by unfold isB at h; rw [decide_eq_true_iff] at h; exact (h.1 x hx).2
theorem lte_iff {a b : List (ByteArray × Int)} (ha : isB a = true) (hb : isB b = true) : gteB b a = true ↔ ∀ s, totalP s a ≤ totalP s b := by
  unfold gteB
  rw [List.all_eq_true]
  constructor
  · intro h s
    by_cases hs : ∃ x ∈ a, x.1 = s
    · obtain ⟨x, hx, rfl⟩ := hs
      rw [tot_get (isB_strict ha) hx]
      have := h x hx
      rwa [decide_eq_true_iff] at this
    · rw [totalP_none (fun x hx e => hs ⟨x, hx, e⟩)]
      exact total_nonneg (isB_posP hb) s
  · intro h x hx
    rw [decide_eq_true_iff]
    have := h x.1
    rwa [tot_get (isB_strict ha) hx] at this
theorem lte_refl {a : List (ByteArray × Int)} (ha : isB a = true) : gteB a a = true := (lte_iff ha ha).2 fun _ => Int.le_refl _
theorem lte_trans {a b c : List (ByteArray × Int)} (ha : isB a = true) (hb : isB b = true) (hc : isB c = true) (h : gteB b a = true) (k : gteB c b = true) : gteB c a = true :=
  (lte_iff ha hc).2 fun s => Int.le_trans ((lte_iff ha hb).1 h s) ((lte_iff hb hc).1 k s)
theorem lte_anti {a b : List (ByteArray × Int)} (ha : isB a = true) (hb : isB b = true) (h : gteB b a = true) (k : gteB a b = true) : a = b :=
  totals_unique (isB_strict ha) (fun y hy => by have := isB_posP ha y hy; omega) (isB_strict hb) (fun y hy => by have := isB_posP hb y hy; omega) fun s => Int.le_antisymm ((lte_iff ha hb).1 h s) ((lte_iff hb ha).1 k s)
/-- The difference is not negative just if what is taken is at most. -/
theorem neg_lte {a b r : List (ByteArray × Int)} (ha : isB a = true) (hb : isB b = true) (h : IsAdd (b ++ negs a) r) : negB r = !gteB b a := by
  have hs := isAdd_sums h
  have ht : ∀ s, totalP s r = totalP s b - totalP s a := fun s => by rw [hs.2.2, totalP_append, total_negs]; omega
  cases hg : gteB b a
  · unfold gteB at hg
    rw [List.all_eq_false] at hg
    obtain ⟨x, hx, hn⟩ := hg
    rw [decide_eq_true_iff] at hn
    have h1 := ht x.1
    rw [tot_get (isB_strict ha) hx] at h1
    have h2 : totalP x.1 r ≠ 0 := by omega
    obtain ⟨y, hy, e⟩ := (tot_iff hs.1 hs.2.1 x.1).1 h2
    have h3 := tot_get hs.1 hy
    rw [e] at h3
    show negB r = true
    unfold negB; rw [List.any_eq_true]
    exact ⟨y, hy, decide_eq_true (by omega)⟩
  · show negB r = false
    unfold negB; rw [List.any_eq_false]
    intro y hy
    have h1 := ht y.1
    rw [tot_get hs.1 hy] at h1
    have h2 := (lte_iff ha hb).1 hg y.1
    simp; omega
theorem setB_isB {l : List (ByteArray × Int)} (h : setB l = true) : isB l = true := setB_is h

set_option maxRecDepth 100000 in
set_option maxHeartbeats 2000000 in
theorem cAtMost (A B : Option Addr) (n c m d : Nat) (l l' : List (ByteArray × Int)) (w : World) (hl : l.length = n) (hl' : l'.length = m) (hn : n ≤ 20) (hm : m ≤ 20) (hA : PlainAt w A l) (hB : PlainAt w B l')
    (hz : ∀ x ∈ l ++ l', x.2.natAbs ≤ 1125899906842624) (hsz : ∀ x ∈ l ++ l', x.1.size ≤ maxLen) (hb : isB l = true) (hb' : isB l' = true) :
    Calls Tryz.prog 68 #[.slice A n c, .slice B m d] w (RetE (.bool (gteB l' l)) w) := by
  obtain ⟨b3, hb3⟩ : ∃ b, b = gteB l' l := ⟨_, rfl⟩
  rw [← hb3]
  have HB3 := Lib.hid hb3; clear hb3
  have H1 := Lib.hid (lSumTo A n c l w hl (by omega) hA)
  have H2 := Lib.hid (fun (W : World) (e : Ext w W) => lSumTo B m d l' W hl' (by omega) (hB.ext e))
  have H3 := Lib.hid (fun (A' B' : Option Addr) (c' d' : Nat) (W : World) (h1 : PlainAt W A' l) (h2 : PlainAt W B' l') => iCompare A' B' n c' m d' l l' W hl hl' hn hm h1 h2 hz hsz hb hb')
  have HL := Lib.hid hl; have HL' := Lib.hid hl'
  clear hl hl' hn hm hA hB hz hsz hb hb'
  go_enter Tryz.func68, Tryz.ntmps68
  go_wp2_with (fail)
  go_at_call 22
  refine H1.out.mono ?_
  rintro e w1 ⟨v, rfl, ho, hE⟩
  obtain ⟨A1, c1, rfl, hp⟩ := pown_len ho HL.out
  have HP1 := Lib.hid hp; have HE1 := Lib.hid hE; clear ho hp hE
  go_wp2_with (fail)
  go_at_call 22
  refine (H2.out _ HE1.out).mono ?_
  rintro e w2 ⟨v, rfl, ho, hE⟩
  obtain ⟨A2, c2, rfl, hp⟩ := pown_len ho HL'.out
  have HP2 := Lib.hid hp; have HP1' := Lib.hid (HP1.out.ext hE); have HE2 := Lib.hid (HE1.out.trans' hE); clear ho hp hE
  go_wp2_with (fail)
  go_at_call 67
  refine (H3.out A1 A2 c1 c2 _ HP1'.out HP2.out).mono ?_
  rintro e w3 ⟨rfl, hE⟩
  have HE3 := Lib.hid (HE2.out.trans' hE); clear hE
  rw [← HB3.out]
  generalize gtB l l' = b0, gteB l l' = b1, gtB l' l = b2, anyB l l' = b4, anyEB l l' = b5, subB l l' = b6, decide (l = l') = b7
  go_wp2
  go_ret
  exact ⟨rfl, HE3.out.trans' (Ext.alloc' _ _)⟩

set_option maxRecDepth 100000 in
set_option maxHeartbeats 2000000 in
theorem cAtMost2 (A B : Option Addr) (n c m d : Nat) (l l' : List (ByteArray × Int)) (w : World) (hl : l.length = n) (hl' : l'.length = m) (hn : n ≤ 20) (hm : m ≤ 20) (hA : PlainAt w A l) (hB : PlainAt w B l')
    (hz : ∀ x ∈ l ++ l', x.2.natAbs ≤ 1125899906842624) (hsz : ∀ x ∈ l ++ l', x.1.size ≤ maxLen) (hb : isB l = true) (hb' : isB l' = true) :
    Calls Tryz.prog 69 #[.slice A n c, .slice B m d] w (RetE (.bool (gteB l' l)) w) := by
  obtain ⟨b3, hb3⟩ : ∃ b, b = gteB l' l := ⟨_, rfl⟩
  rw [← hb3]
  have HB3 := Lib.hid hb3; clear hb3
  have H3 := Lib.hid (iCompare A B n c m d l l' w hl hl' hn hm hA hB hz hsz hb hb')
  have HE2 := Lib.hid (Ext.refl w)
  clear hl hl' hn hm hA hB hz hsz hb hb'
  go_enter Tryz.func69, Tryz.ntmps69
  go_wp2_with (fail)
  go_at_call 67
  refine H3.out.mono ?_
  rintro e w3 ⟨rfl, hE⟩
  have HE3 := Lib.hid (HE2.out.trans' hE); clear hE
  rw [← HB3.out]
  generalize gtB l l' = b0, gteB l l' = b1, gtB l' l = b2, anyB l l' = b4, anyEB l l' = b5, subB l l' = b6, decide (l = l') = b7
  go_wp2
  go_ret
  exact ⟨rfl, HE3.out.trans' (Ext.alloc' _ _)⟩
end Go.Proofs.YtagfbefgcijegaaGreatDoor
