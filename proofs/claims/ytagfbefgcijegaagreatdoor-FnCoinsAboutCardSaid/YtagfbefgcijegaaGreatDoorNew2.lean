/-
  The contract of impl.NewOf; what makes a list a set.
-/
import Derived.Test.YtagfbefgcijegaaGreatDoorNew
import Derived.Test.YtagfbefgcijegaaGreatDoorSet
namespace Go.Proofs.YtagfbefgcijegaaGreatDoor
open Go Go.RowKit

/-- New coins in plain data, or that they are no set. -/
def RetNewOf (l : List (ByteArray × Int)) (w : World) (e : Ending) (w' : World) : Prop :=
  ∃ r, r.Perm (l.filter fun x => x.2 ≠ 0) ∧ (r.Pairwise fun a b => le a.1 b.1) ∧ Ext w w' ∧ ((ErrIs r none ∧ ∃ v, e = .returned (.tuple #[v, .bool true]) ∧ PlainOwn w' w.heap.size 37 v r) ∨ (∃ t, ErrIs r (some t)) ∧ e = .returned (.tuple #[.slice none 0 0, .bool false]))
theorem nz_val {cs : List Co} {l : List (ByteArray × Int)} (h : cs.map Co.val = l) : (nz cs).map Co.val = l.filter fun x => x.2 ≠ 0 := by
  rw [← h]; unfold nz; rw [List.filter_map]; rfl
theorem size_val {cs : List Co} {l : List (ByteArray × Int)} (h : cs.map Co.val = l) (hs : ∀ x ∈ l, x.1.size ≤ maxLen) : ∀ x ∈ cs, x.s.size ≤ 9223372036854775807 := by
  intro x hx
  have := hs x.val (by rw [← h]; exact List.mem_map_of_mem hx)
  unfold maxLen at this
  exact Nat.le_trans this (by decide)

set_option maxRecDepth 100000 in
set_option maxHeartbeats 1000000 in
theorem iNewOf (A : Option Addr) (n c : Nat) (l : List (ByteArray × Int)) (w : World) (hl : l.length = n) (hn : n ≤ 12) (h : PlainAt w A l) (hz : ∀ x ∈ l, -maxI ≤ x.2 ∧ x.2 ≤ maxI) (hsz : ∀ x ∈ l, x.1.size ≤ maxLen) :
    Calls Tryz.prog 40 #[.slice A n c] w (RetNewOf l w) := by
  have H1 := Lib.hid (iCoins A n c l w hl (by omega) h hz)
  have HL := Lib.hid hl; have HZ := Lib.hid hz; have HSZ := Lib.hid hsz
  clear hl h hz hsz
  go_enter Tryz.func40, Tryz.ntmps40
  go_wp2_with (fail)
  go_at_call 72
  refine H1.out.mono ?_
  rintro e w1 ⟨v, cs, rfl, hcv, hown, hE⟩
  obtain ⟨A1, c1, rfl⟩ := coins_shape hown
  have HO := Lib.hid (own_at hown).1; have HV := Lib.hid hcv; have HE := Lib.hid hE; have HN := Lib.hid (show cs.length = n by rw [← HL.out, ← hcv]; simp)
  clear hown hcv hE
  go_wp2_with (fail)
  go_at_call 89
  refine (tMakeCoins A1 cs.length c1 cs _ rfl (by have := HN.out; omega) HO.out (size_val HV.out HSZ.out)).mono ?_
  rintro e w2 ⟨L, hp, hs, hE2, hr⟩
  have HE2 := Lib.hid (HE.out.trans' hE2)
  have HP := Lib.hid (show (L.map Co.val).Perm (l.filter fun x => x.2 ≠ 0) by rw [← nz_val HV.out]; exact hp.map _)
  have HS := Lib.hid (show (L.map Co.val).Pairwise fun a b => le a.1 b.1 by rw [List.pairwise_map]; exact hs)
  have HB := Lib.hid (show ∀ x ∈ L, -maxI ≤ x.z ∧ x.z ≤ maxI from fun x hx => HZ.out x.val (by rw [← HV.out]; exact List.mem_map_of_mem (List.mem_filter.1 (hp.mem_iff.1 hx)).1))
  have HLN := Lib.hid (show L.length ≤ 12 by
    have h1 := hp.length_eq
    have h2 : (nz cs).length ≤ cs.length := List.length_filter_le _ _
    have := HN.out; omega)
  have HW1 := Lib.hid HE.out.size
  clear hp hs hE2
  rcases hr with ⟨ho, v2, rfl, hown2⟩ | ⟨ho, b, rfl⟩
  · obtain ⟨A2, c2, rfl⟩ := coins_shape hown2
    have HO2 := Lib.hid (own_at hown2).1; have HOO := Lib.hid ho
    clear hown2 ho
    go_wp2_with (fail)
    go_at_call 74
    refine (iBackCoins A2 L.length c2 L _ rfl (by have := HLN.out; omega) HO2.out HB.out).mono ?_
    rintro e w3 ⟨v3, rfl, ho3, hE3⟩
    have HO3 := Lib.hid ho3; have HE3 := Lib.hid hE3
    clear ho3 hE3
    go_wp2
    go_ret2
    exact ⟨_, HP.out, HS.out, HE2.out.trans' HE3.out, Or.inl ⟨HOO.out, v3, rfl, row_low HO3.out HE2.out.size⟩⟩
  · have HOO := Lib.hid ho
    clear ho
    go_wp2
    go_ret2
    exact ⟨_, HP.out, HS.out, HE2.out, Or.inr ⟨HOO.out, rfl⟩⟩

/-- A list is a set just if nothing is wrong with it. -/
theorem isB_err {l : List (ByteArray × Int)} : ErrIs l none ↔ isB l = true := by
  constructor
  · intro h
    have hz : ∀ j, (hj : j < l.length) → denomB l[j].1 = true ∧ 0 < l[j].2 := by
      intro j hj
      have := h j
      unfold errAt at this
      rw [List.getElem?_eq_getElem hj] at this
      simp only at this
      unfold errOne at this
      split at this
      · cases this
      · rename_i hd
        refine ⟨by simpa using hd, ?_⟩
        split at this
        · split at this
          · cases this
          · split at this
            · cases this
            · split at this
              · cases this
              · omega
        · split at this
          · cases this
          · omega
    have hs : ∀ k, (hk : k + 1 < l.length) → keyLt l[k].1 l[k + 1].1 = true := by
      intro k hk
      have := h (k + 1)
      rw [errAt_succ hk] at this
      unfold errOne at this
      split at this
      · cases this
      · simp only at this
        split at this
        · cases this
        · rename_i h1
          split at this
          · cases this
          · rename_i h2
            exact key_lt_of_le_ne (by unfold le; simpa using h1) (fun e => h2 e.symm)
    have : ∀ k, k ≤ l.length → IsI l k := by
      intro k
      induction k with
      | zero => exact fun _ => ⟨fun j _ h => absurd h (Nat.not_lt_zero _), fun i j _ _ h => absurd h (Nat.not_lt_zero _)⟩
      | succ k ih => exact fun hk => isI_step (ih (by omega)) (by omega) (hz k (by omega)).1 (hz k (by omega)).2 (fun m hm => by subst hm; exact hs m (by omega))
    exact isI_end (this _ (Nat.le_refl _))
  · intro h j
    unfold isB at h; rw [decide_eq_true_iff, List.pairwise_iff_getElem] at h
    rcases Nat.lt_or_ge j l.length with hj | hj
    · have hx := h.1 _ (List.getElem_mem hj)
      cases j with
      | zero => rw [errAt_zero hj]; unfold errOne; rw [if_neg (by rw [hx.1]; simp)]; exact if_neg (by omega)
      | succ k =>
        have hlt := h.2 k (k + 1) (by omega) hj (by omega)
        rw [errAt_succ hj]; unfold errOne; rw [if_neg (by rw [hx.1]; simp)]
        show (if keyLt _ _ = true then _ else _) = _
        rw [if_neg (by rw [keyLt_asymm hlt]; simp), if_neg (fun e => by rw [← e, keyLt_irrefl] at hlt; cases hlt), if_neg (by omega)]
    · exact errAt_out hj
theorem isNone_isB {l : List (ByteArray × Int)} {o : Option ByteArray} (h : ErrIs l o) : o.isNone = isB l := by
  cases o with
  | none => exact (isB_err.1 h).symm
  | some t =>
    cases hb : isB l
    · rfl
    · have := errIs_unique h (isB_err.2 hb); cases this
theorem isB_perm {r r' : List (ByteArray × Int)} (hp : r.Perm r') (hs : r.Pairwise fun a b => le a.1 b.1) (hs' : r'.Pairwise fun a b => le a.1 b.1) : isB r = isB r' := by
  have key : ∀ {a b : List (ByteArray × Int)}, a.Perm b → (b.Pairwise fun a b => le a.1 b.1) → isB a = true → isB b = true := by
    intro a b hp hs h
    unfold isB at h ⊢
    rw [decide_eq_true_iff] at h ⊢
    refine ⟨fun x hx => h.1 x (hp.mem_iff.2 hx), once_strict hs (hp.pairwise (h.2.imp fun h e => by rw [e, keyLt_irrefl] at h; cases h) fun h e => h e.symm)⟩
  cases h : isB r
  · cases h' : isB r'
    · rfl
    · rw [key hp.symm hs h'] at h; cases h
  · exact (key hp hs' h).symm
theorem isB_strict {l : List (ByteArray × Int)} (h : isB l = true) : l.Pairwise fun a b => keyLt a.1 b.1 = true := by
  unfold isB at h; rw [decide_eq_true_iff] at h; exact h.2
theorem fits_of {n : Nat} {l r : List (ByteArray × Int)} (h : Fits n l) (hr : ∀ x ∈ r, x ∈ l) (hl : r.length ≤ 2147483647) : Fits r.length r := ⟨hl, fun x hx => h.2 x (hr x hx)⟩
/-- NewOf, as the law asks: a set and the sorted list itself; or none. -/
theorem newof_fact {l r' : List (ByteArray × Int)} {w w' : World} {e : Ending} (h : RetNewOf l w e w') (hp : r'.Perm (l.filter fun x => x.2 ≠ 0)) (hs : r'.Pairwise fun a b => le a.1 b.1) :
    Ext w w' ∧ ((isB r' = true ∧ ∃ v, e = .returned (.tuple #[v, .bool true]) ∧ PlainOwn w' w.heap.size 37 v r') ∨ isB r' = false ∧ e = .returned (.tuple #[.slice none 0 0, .bool false])) := by
  obtain ⟨r, hp1, hs1, hE, h⟩ := h
  have hb := isB_perm (hp1.trans hp.symm) hs1 hs
  refine ⟨hE, ?_⟩
  rcases h with ⟨ho, v, rfl, hv⟩ | ⟨⟨t, ho⟩, rfl⟩
  · have hbr := isB_err.1 ho
    have : r = r' := asc_unique (key := Prod.fst) (hp1.trans hp.symm) hs1 (isB_strict (hb ▸ hbr))
    subst this
    exact Or.inl ⟨hbr, v, rfl, hv⟩
  · refine Or.inr ⟨?_, rfl⟩
    rw [← hb]
    cases hc : isB r
    · rfl
    · have := errIs_unique (isB_err.2 hc) ho; cases this
end Go.Proofs.YtagfbefgcijegaaGreatDoor
