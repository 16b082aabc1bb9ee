/-
  Plain laws of the reference's SumTotal: the sums by denominations of coins in order.
-/
import Derived.Test.YtagfbefgcijegaaGreatDoorAdd
namespace Go.Proofs.YtagfbefgcijegaaGreatDoor
open Go Go.RowKit

theorem totalP_nil (s : ByteArray) : totalP s [] = 0 := rfl
theorem totalP_cons (s : ByteArray) (x : ByteArray × Int) (l : List (ByteArray × Int)) : totalP s (x :: l) = (if x.1 = s then x.2 else 0) + totalP s l := by
  unfold totalP
  by_cases h : x.1 = s <;> simp [h]
theorem totalP_append (s : ByteArray) (l m : List (ByteArray × Int)) : totalP s (l ++ m) = totalP s l + totalP s m := by
  induction l with
  | nil => simp [totalP_nil]
  | cons x l ih => rw [List.cons_append, totalP_cons, totalP_cons, ih]; omega
theorem totalP_perm (s : ByteArray) {l m : List (ByteArray × Int)} (h : l.Perm m) : totalP s l = totalP s m := by
  induction h with
  | nil => rfl
  | cons x _ ih => rw [totalP_cons, totalP_cons, ih]
  | swap x y l => rw [totalP_cons, totalP_cons, totalP_cons, totalP_cons]; omega
  | trans _ _ h1 h2 => rw [h1, h2]
theorem totalP_none {s : ByteArray} {l : List (ByteArray × Int)} (h : ∀ x ∈ l, x.1 ≠ s) : totalP s l = 0 := by
  induction l with
  | nil => rfl
  | cons x l ih => rw [totalP_cons, if_neg (h x (by simp)), ih (fun y hy => h y (by simp [hy]))]; omega
theorem totalP_bound' (s : ByteArray) {l : List (ByteArray × Int)} {m : Nat} (h : ∀ x ∈ l, x.2.natAbs ≤ m) : (totalP s l).natAbs ≤ l.length * m := by
  induction l with
  | nil => simp [totalP_nil]
  | cons x l ih =>
    have h1 := h x (by simp)
    have h2 := ih (fun y hy => h y (by simp [hy]))
    rw [totalP_cons, List.length_cons, Nat.add_mul]
    split <;> omega
theorem isAdd_perm {l m r : List (ByteArray × Int)} (hp : l.Perm m) (h : IsAdd l r) : IsAdd m r := by
  obtain ⟨ks, h1, h2, rfl⟩ := h
  refine ⟨ks, h1, fun s => (h2 s).trans ⟨?_, ?_⟩, ?_⟩
  · rintro ⟨x, hx, e⟩; exact ⟨x, hp.mem_iff.1 hx, e⟩
  · rintro ⟨x, hx, e⟩; exact ⟨x, hp.mem_iff.2 hx, e⟩
  · unfold coalP; congr 1; funext s; rw [totalP_perm s hp]

theorem totalP_bound (s : ByteArray) {l : List (ByteArray × Int)} (h : ∀ x ∈ l, x.2.natAbs ≤ 1125899906842624) : (totalP s l).natAbs ≤ l.length * 1125899906842624 := totalP_bound' s h
theorem strict_sorted {r : List (ByteArray × Int)} (h : r.Pairwise fun a b => keyLt a.1 b.1 = true) : sortedB (r.map Prod.fst) = true :=
  sortedB_true fun j hj => by
    have := List.pairwise_iff_getElem.1 h j (j + 1) (by simp at hj; omega) (by simpa using hj) (by omega)
    simpa using keyLt_asymm this

/-- What has been summed of a part of the coins. -/
def TotI (p out : List (ByteArray × Int)) : Prop :=
  out.Pairwise (fun a b => keyLt a.1 b.1 = true) ∧ (∀ s, (∃ y ∈ out, y.1 = s) ↔ ∃ x ∈ p, x.1 = s) ∧ ∀ y ∈ out, y.2 = totalP y.1 p
theorem totI_nil : TotI [] [] := ⟨List.Pairwise.nil, fun s => by simp, fun y hy => by simp at hy⟩
theorem totI_new {p out : List (ByteArray × Int)} {c : ByteArray × Int} (h : TotI p out) (hlt : ∀ y ∈ out, keyLt y.1 c.1 = true) : TotI (p ++ [c]) (out ++ [c]) := by
  obtain ⟨h1, h2, h3⟩ := h
  refine ⟨?_, fun s => ?_, fun y hy => ?_⟩
  · rw [List.pairwise_append]
    exact ⟨h1, by simp, fun a ha b hb => by simp at hb; subst hb; exact hlt a ha⟩
  · have := h2 s
    simp only [List.mem_append, List.mem_singleton, or_and_right, exists_or]
    rw [this]
  · rw [List.mem_append, List.mem_singleton] at hy
    rw [totalP_append, totalP_cons, totalP_nil]
    rcases hy with hy | rfl
    · rw [if_neg (fun e => by have := hlt y hy; rw [← e, keyLt_irrefl] at this; cases this), h3 y hy]; omega
    · rw [if_pos rfl, totalP_none (fun x hx e => by
        obtain ⟨y', hy', e'⟩ := (h2 y.1).2 ⟨x, hx, e⟩
        have := hlt y' hy'; rw [e', keyLt_irrefl] at this; cases this)]; omega
theorem totI_more {p ini : List (ByteArray × Int)} {s : ByteArray} {y z : Int} (h : TotI p (ini ++ [(s, y)])) : TotI (p ++ [(s, z)]) (ini ++ [(s, y + z)]) := by
  obtain ⟨h1, h2, h3⟩ := h
  rw [List.pairwise_append] at h1
  refine ⟨?_, fun t => ?_, fun x hx => ?_⟩
  · rw [List.pairwise_append]
    exact ⟨h1.1, by simp, fun a ha b hb => by simp at hb; subst hb; exact h1.2.2 a ha (s, y) (by simp)⟩
  · have := h2 t
    simp only [List.mem_append, List.mem_singleton, or_and_right, exists_or, exists_eq_left] at this ⊢
    rw [this]
    constructor
    · exact Or.inl
    · rintro (h | h)
      · exact h
      · exact this.1 (Or.inr h)
  · rw [List.mem_append, List.mem_singleton] at hx
    rw [totalP_append, totalP_cons, totalP_nil]
    rcases hx with hx | rfl
    · have := h1.2.2 x hx (s, y) (by simp)
      rw [if_neg (fun e => by dsimp at e this; rw [← e, keyLt_irrefl] at this; cases this), h3 x (by simp [hx])]; omega
    · have := h3 (s, y) (by simp)
      dsimp at this ⊢; rw [if_pos rfl, ← this]; omega
/-- The last one's name is not that of the next coin, which is not below: all are below it. -/
theorem totI_lt {p ini : List (ByteArray × Int)} {x c : ByteArray × Int} (h : TotI p (ini ++ [x])) (hp : ∀ y ∈ p, le y.1 c.1) (hne : x.1 ≠ c.1) : ∀ y ∈ ini ++ [x], keyLt y.1 c.1 = true := by
  obtain ⟨h1, h2, _⟩ := h
  obtain ⟨x', hx', e⟩ := (h2 x.1).1 ⟨x, by simp, rfl⟩
  have hlt : keyLt x.1 c.1 = true := key_lt_of_le_ne (e ▸ hp x' hx') hne
  intro y hy
  rw [List.mem_append, List.mem_singleton] at hy
  rcases hy with hy | rfl
  · rw [List.pairwise_append] at h1
    exact keyLt_trans (h1.2.2 y hy x (by simp)) hlt
  · exact hlt
theorem totI_end {l out : List (ByteArray × Int)} (h : TotI l out) : IsAdd l (out.filter fun x => x.2 ≠ 0) := by
  obtain ⟨h1, h2, h3⟩ := h
  refine ⟨out.map Prod.fst, ?_, fun s => ?_, ?_⟩
  · rw [List.pairwise_map]; exact h1
  · rw [← h2 s]; simp
  · unfold coalP
    rw [List.filterMap_map]
    clear h1 h2
    induction out with
    | nil => rfl
    | cons y out ih =>
      have hy := h3 y (by simp)
      rw [List.filter_cons, List.filterMap_cons, ih (fun x hx => h3 x (by simp [hx]))]
      simp only [Function.comp]
      rw [← hy]
      by_cases h0 : y.2 = 0 <;> simp [h0]
theorem totI_bound {p out : List (ByteArray × Int)} (h : TotI p out) (hb : ∀ x ∈ p, x.2.natAbs ≤ 1125899906842624) (hl : p.length ≤ 50) : ∀ y ∈ out, y.2.natAbs ≤ 56294995342131200 := by
  intro y hy
  rw [h.2.2 y hy]
  have := totalP_bound y.1 hb
  omega
theorem totI_len {p out : List (ByteArray × Int)} (h : TotI p out) : out.length ≤ p.length := by
  have h1 : (out.map Prod.fst).length ≤ (p.map Prod.fst).length := List.Nodup.length_le_of_subset (by
    have := h.1
    rw [← List.pairwise_map (f := Prod.fst) (R := fun a b => keyLt a b = true)] at this
    exact this.imp fun {a b} h e => by subst e; rw [keyLt_irrefl] at h; cases h) (fun s hs => by
    obtain ⟨y, hy, e⟩ := List.mem_map.1 hs
    obtain ⟨x, hx, e'⟩ := (h.2.1 s).1 ⟨y, hy, e⟩
    exact List.mem_map.2 ⟨x, hx, e'⟩)
  simpa using h1

/-- In order, without doubles: the sums are the coins themselves that are not 0. -/
theorem isAdd_self {l : List (ByteArray × Int)} (h : l.Pairwise fun a b => keyLt a.1 b.1 = true) : TotI l l := by
  refine ⟨h, fun s => Iff.rfl, fun y hy => ?_⟩
  induction l with
  | nil => simp at hy
  | cons x l ih =>
    rw [List.pairwise_cons] at h
    rw [totalP_cons]
    rw [List.mem_cons] at hy
    rcases hy with rfl | hy
    · rw [if_pos rfl, totalP_none (fun z hz e => by have := h.1 z hz; rw [e, keyLt_irrefl] at this; cases this)]; omega
    · rw [if_neg (fun e => by have := h.1 y hy; rw [e, keyLt_irrefl] at this; cases this), ← ih h.2 hy]; omega

/-- r has the sums of l, in order, none of them 0. -/
def SumsTo (l r : List (ByteArray × Int)) : Prop := r.Pairwise (fun a b => keyLt a.1 b.1 = true) ∧ (∀ y ∈ r, y.2 ≠ 0) ∧ ∀ s, totalP s r = totalP s l
theorem tot_get {r : List (ByteArray × Int)} (h : r.Pairwise fun a b => keyLt a.1 b.1 = true) {y : ByteArray × Int} (hy : y ∈ r) : totalP y.1 r = y.2 := ((isAdd_self h).2.2 y hy).symm
theorem tot_iff {r : List (ByteArray × Int)} (h : r.Pairwise fun a b => keyLt a.1 b.1 = true) (hz : ∀ y ∈ r, y.2 ≠ 0) (s : ByteArray) : totalP s r ≠ 0 ↔ ∃ y ∈ r, y.1 = s := by
  constructor
  · intro hn
    refine Classical.byContradiction fun k => hn (totalP_none fun x hx e => k ⟨x, hx, e⟩)
  · rintro ⟨y, hy, rfl⟩
    rw [tot_get h hy]; exact hz y hy
theorem tot_self {r : List (ByteArray × Int)} (h : r.Pairwise fun a b => keyLt a.1 b.1 = true) : r = (r.map Prod.fst).map fun s => (s, totalP s r) := by
  rw [List.map_map]
  have : ∀ y ∈ r, ((fun s => (s, totalP s r)) ∘ Prod.fst) y = id y := fun y hy => by simp only [Function.comp]; rw [tot_get h hy]; rfl
  rw [List.map_congr_left this, List.map_id]
theorem strict_nodup {ks : List ByteArray} (h : ks.Pairwise fun a b => keyLt a b = true) : ks.Nodup := h.imp fun {a b} h e => by subst e; rw [keyLt_irrefl] at h; cases h
theorem strict_keys {r : List (ByteArray × Int)} (h : r.Pairwise fun a b => keyLt a.1 b.1 = true) : (r.map Prod.fst).Pairwise fun a b => keyLt a b = true := List.pairwise_map.2 h
theorem keys_eq {r r' : List ByteArray} (h : r.Pairwise fun a b => keyLt a b = true) (h' : r'.Pairwise fun a b => keyLt a b = true) (hm : ∀ s, s ∈ r ↔ s ∈ r') : r = r' :=
  asc_unique (key := id) ((List.perm_ext_iff_of_nodup (strict_nodup h) (strict_nodup h')).2 hm) (h.imp fun h => le_of_lt h) h'
theorem totals_unique {r r' : List (ByteArray × Int)} (h : r.Pairwise fun a b => keyLt a.1 b.1 = true) (hz : ∀ y ∈ r, y.2 ≠ 0) (h' : r'.Pairwise fun a b => keyLt a.1 b.1 = true) (hz' : ∀ y ∈ r', y.2 ≠ 0)
    (ht : ∀ s, totalP s r = totalP s r') : r = r' := by
  rw [tot_self h, tot_self h', keys_eq (strict_keys h) (strict_keys h') (fun s => by
    have e1 := tot_iff h hz s
    have e2 := tot_iff h' hz' s
    rw [ht s] at e1
    simp only [List.mem_map]
    exact e1.symm.trans e2)]
  exact List.map_congr_left fun s _ => by rw [ht s]
theorem sums_unique {l l' r r' : List (ByteArray × Int)} (h : SumsTo l r) (h' : SumsTo l' r') (ht : ∀ s, totalP s l = totalP s l') : r = r' :=
  totals_unique h.1 h.2.1 h'.1 h'.2.1 fun s => by rw [h.2.2, h'.2.2, ht]
theorem coalP_cons (k : ByteArray) (ks : List ByteArray) (l : List (ByteArray × Int)) : coalP (k :: ks) l = (if totalP k l = 0 then [] else [(k, totalP k l)]) ++ coalP ks l := by
  unfold coalP
  rw [List.filterMap_cons]
  by_cases h : totalP k l = 0 <;> simp [h]
theorem coalP_mem {ks : List ByteArray} {l : List (ByteArray × Int)} {y : ByteArray × Int} (h : y ∈ coalP ks l) : y.1 ∈ ks ∧ y.2 = totalP y.1 l ∧ y.2 ≠ 0 := by
  unfold coalP at h
  obtain ⟨s, hs, he⟩ := List.mem_filterMap.1 h
  split at he
  · cases he
  · injection he with he; subst he; exact ⟨hs, rfl, by assumption⟩
theorem coalP_total {ks : List ByteArray} (l : List (ByteArray × Int)) (hk : ks.Nodup) (s : ByteArray) : (s ∈ ks → totalP s (coalP ks l) = totalP s l) ∧ (s ∉ ks → totalP s (coalP ks l) = 0) := by
  induction ks with
  | nil => exact ⟨fun h => absurd h (by simp), fun _ => rfl⟩
  | cons k ks ih =>
    rw [List.nodup_cons] at hk
    obtain ⟨i1, i2⟩ := ih hk.2
    rw [coalP_cons, totalP_append]
    by_cases e : s = k
    · subst e
      refine ⟨fun _ => ?_, fun h => absurd (by simp) h⟩
      rw [i2 hk.1]
      by_cases h0 : totalP s l = 0
      · rw [if_pos h0, totalP_nil, h0]; rfl
      · rw [if_neg h0, totalP_cons, if_pos rfl, totalP_nil]; omega
    · have h1 : totalP s (if totalP k l = 0 then [] else [(k, totalP k l)]) = 0 := by
        split
        · rfl
        · rw [totalP_cons, if_neg (fun h => e h.symm), totalP_nil]; rfl
      rw [h1]
      refine ⟨fun h => ?_, fun h => ?_⟩
      · rw [List.mem_cons] at h
        rw [i1 (h.resolve_left e)]; omega
      · rw [List.mem_cons] at h
        rw [i2 (fun k => h (Or.inr k))]; rfl
theorem isAdd_sums {l r : List (ByteArray × Int)} (h : IsAdd l r) : SumsTo l r := by
  obtain ⟨ks, h1, h2, rfl⟩ := h
  refine ⟨?_, fun y hy => (coalP_mem hy).2.2, fun s => ?_⟩
  · clear h2
    induction ks with
    | nil => exact List.Pairwise.nil
    | cons k ks ih =>
      rw [List.pairwise_cons] at h1
      rw [coalP_cons, List.pairwise_append]
      refine ⟨by split <;> simp, ih h1.2, fun a ha b hb => ?_⟩
      have hb' := (coalP_mem hb).1
      split at ha
      · simp at ha
      · simp at ha; subst ha; exact h1.1 _ hb'
  · by_cases hs : s ∈ ks
    · exact (coalP_total l (strict_nodup h1) s).1 hs
    · rw [(coalP_total l (strict_nodup h1) s).2 hs, totalP_none fun x hx e => hs ((h2 s).2 ⟨x, hx, e⟩)]
theorem isAdd_len {l r : List (ByteArray × Int)} (h : IsAdd l r) : r.length ≤ l.length := by
  obtain ⟨ks, h1, h2, rfl⟩ := h
  have e1 : (coalP ks l).length ≤ ks.length := List.length_filterMap_le _ _
  have e2 : ks.length ≤ (l.map Prod.fst).length := List.Nodup.length_le_of_subset (strict_nodup h1) (fun s hs => by
    obtain ⟨x, hx, e⟩ := (h2 s).1 hs
    exact List.mem_map.2 ⟨x, hx, e⟩)
  simp at e2; omega
theorem isAdd_size {l r : List (ByteArray × Int)} {m : Nat} (h : IsAdd l r) (hs : ∀ x ∈ l, x.1.size ≤ m) : ∀ y ∈ r, y.1.size ≤ m := by
  obtain ⟨ks, h1, h2, rfl⟩ := h
  intro y hy
  obtain ⟨x, hx, e⟩ := (h2 y.1).1 (coalP_mem hy).1
  rw [← e]; exact hs x hx
theorem isAdd_bound {l r : List (ByteArray × Int)} {m : Nat} (h : IsAdd l r) (hb : ∀ x ∈ l, x.2.natAbs ≤ m) : ∀ y ∈ r, y.2.natAbs ≤ l.length * m := by
  obtain ⟨ks, h1, h2, rfl⟩ := h
  intro y hy
  rw [(coalP_mem hy).2.1]
  exact totalP_bound' y.1 hb
theorem isAdd_sorted {l r : List (ByteArray × Int)} (h : IsAdd l r) : sortedB (r.map Prod.fst) = true := strict_sorted (isAdd_sums h).1
end Go.Proofs.YtagfbefgcijegaaGreatDoor
