/-
  Coins grouped by their denominations in a map of slices: what a look-up, an append and a store do.
-/
import Derived.Test.YtagfbefgcijegaaGreatDoorSort3
import Derived.Test.YtagfbefgcijegaaGreatDoorKeys
import Derived.Test.YtagfbefgcijegaaGreatDoorSorted
import Derived.Test.YtagfbefgcijegaaGreatDoorCoin2
import Derived.Deep.AppendLies
namespace Go.Proofs.YtagfbefgcijegaaGreatDoor
open Go Go.RowKit Go.Maps

/-- The coins of one denomination. -/
def ofS (s : ByteArray) (l : List Co) : List Co := l.filter fun c => decide (c.s = s)
theorem ofS_append (s : ByteArray) (l m : List Co) : ofS s (l ++ m) = ofS s l ++ ofS s m := by simp [ofS]
theorem ofS_ne {s : ByteArray} {l : List Co} : ofS s l ≠ [] ↔ ∃ c ∈ l, c.s = s := by
  simp [ofS, List.filter_eq_nil_iff]
theorem ofS_one (s : ByteArray) (c : Co) : ofS s [c] = if c.s = s then [c] else [] := by
  by_cases h : c.s = s <;> simp [ofS, h]
theorem ofS_len (s : ByteArray) (l : List Co) : (ofS s l).length ≤ l.length := by unfold ofS; exact List.length_filter_le _ _
/-- A row of coins of the call's own. -/
def CoRow (w : World) (base : Nat) (v : Value) (l : List Co) : Prop := w.ownsRow base 81 2 v l.length (flat2 (l.map Co.pair))
/-- The coins done so far, by their denominations, in the map of block M; G: where they lie. -/
def Grp (wr : World) (M : Nat) (done : List Co) (G : ByteArray → Value) : Prop :=
  ∃ (D : DataW Value), wr.ownsMap Tryz.prog 9 asIs M done.length D ∧ (∀ s, has D (lk s) = true ↔ ofS s done ≠ []) ∧
    (∀ s, ofS s done ≠ [] → (∀ z, D.atKey (lk s) z = .held (G s)) ∧ CoRow wr (M + 2) (G s) (ofS s done)) ∧
    (∀ s t, ofS s done ≠ [] → ofS t done ≠ [] → s ≠ t → (G s).ownBlock ≠ (G t).ownBlock) ∧ M + 2 ≤ wr.heap.size
/-- What a look-up hands back. -/
def valAt (G : ByteArray → Value) (done : List Co) (s : ByteArray) : Value := if ofS s done = [] then .slice none 0 0 else G s

theorem zeroCoins (w : World) : (zeroValue 71).run Tryz.prog w = .ok (.slice none 0 0) w := by kernel_rfl
theorem ownsMap_of_block {w w' : World} {M n : Nat} {D : DataW Value} (h : w.ownsMap Tryz.prog 9 asIs M n D) (e : w'.heap[M]? = w.heap[M]?) : w'.ownsMap Tryz.prog 9 asIs M n D := by
  obtain ⟨es, clock, hb, r⟩ := h
  exact ⟨es, clock, e.trans hb, r⟩
theorem grp_row {wr : World} {M : Nat} {done : List Co} {G : ByteArray → Value} (h : Grp wr M done G) (s : ByteArray) : CoRow wr (M + 2) (valAt G done s) (ofS s done) := by
  obtain ⟨D, hM, hH, hR, hD, hsz⟩ := h
  unfold valAt
  by_cases e : ofS s done = []
  · rw [if_pos e, e]; exact World.ownsRow_nil _ _ _ _
  · rw [if_neg e]; exact (hR s e).2
set_option maxRecDepth 100000 in
theorem grp_run {wr : World} {M : Nat} {done : List Co} {G : ByteArray → Value} (h : Grp wr M done G) (s : ByteArray) (hs : s.size ≤ maxLen) (W : World) (hW : W.heap[M]? = wr.heap[M]?) :
    (Instr.lookup 122 (.map (some M)) (.string s) false).run Tryz.prog W = .ok (valAt G done s) W := by
  obtain ⟨D, hM, hH, hR, hD, hsz⟩ := h
  obtain ⟨v, ps, hr, hv⟩ := (ownsMap_of_block hM hW).lookup keysK Tryz.underlying122 (zeroCoins W) (show asIs (.slice none 0 0) = some (.held (.slice none 0 0), []) from rfl) (keyOf_str Tryz.underlying9 hs)
  rw [hr]
  unfold asIs at hv; injection hv with hv; injection hv with h1 _
  congr 1
  unfold valAt
  by_cases e : ofS s done = []
  · have hh : has D (lk s) = false := by
      cases k : has D (lk s)
      · rfl
      · exact absurd e ((hH s).1 k)
    rw [atKey_of_not_has hh] at h1
    rw [if_pos e]; injection h1
  · rw [(hR s e).1] at h1
    rw [if_neg e]; injection h1
/-- A row that was appended to, and the map's store behind it. -/
theorem grp_step {wr W1 W2 : World} {M : Nat} {done : List Co} {G : ByteArray → Value} (h : Grp wr M done G) (c : Co) (hs : c.s.size ≤ maxLen) (hd : done.length < 1000) (e : Ext wr W1) {g cap : Nat}
    (hown : W2.ownsRow (M + 2) 81 2 (.slice (some ⟨g, 0, none⟩) ((ofS c.s done).length + 1) cap) ((ofS c.s done).length + 1) (flat2 ((ofS c.s done).map Co.pair) ++ [.string c.s, .pointer (some ⟨c.b, 0, none⟩)]))
    (hg : W1.grownBy W2 (valAt G done c.s).ownBlock) (hb : (valAt G done c.s).ownBlock = some g ∨ g = W1.heap.size) :
    ∃ W3 G', (Instr.mapUpdate 122 (.map (some M)) (.string c.s) (.slice (some ⟨g, 0, none⟩) ((ofS c.s done).length + 1) cap)).run Tryz.prog W2 = .ok () W3 ∧ Grp W3 M (done ++ [c]) G' ∧
      (∀ i, i < M + 2 → i ≠ M → W3.heap[i]? = wr.heap[i]?) ∧ W3.os = wr.os ∧ W3.tape = wr.tape ∧ W3.output = wr.output ∧ wr.heap.size ≤ W3.heap.size ∧ W2.grownBy W3 (some M) := by
  have hrow := grp_row h c.s
  obtain ⟨D, hM, hH, hR, hD, hsz⟩ := h
  have hvb : ∀ i, (valAt G done c.s).ownBlock = some i → M + 2 ≤ i := by
    intro i hi
    rcases hrow.2 with ⟨hv, _⟩ | ⟨g', _, _, hv, hge, _⟩
    · rw [hv] at hi; simp [Value.ownBlock] at hi
    · rw [hv] at hi; simp [Value.ownBlock] at hi; omega
  have hM2 : W2.ownsMap Tryz.prog 9 asIs M done.length D := by
    refine ownsMap_of_block hM ?_
    rw [hg.block M (by have := e.size; omega) (fun k => by have := hvb M k.symm; omega), e.block M (by omega)]
  obtain ⟨W3, hrun, hM3, hg3⟩ := hM2.update keysK Tryz.underlying122 (by unfold maxLen; omega) (keyOf_str Tryz.underlying9 hs) (show asIs (.slice (some ⟨g, 0, none⟩) ((ofS c.s done).length + 1) cap) = some (.held (.slice (some ⟨g, 0, none⟩) ((ofS c.s done).length + 1) cap), []) from rfl)
  obtain ⟨G', hG1, hG2⟩ : ∃ G' : ByteArray → Value, G' c.s = .slice (some ⟨g, 0, none⟩) ((ofS c.s done).length + 1) cap ∧ ∀ t, t ≠ c.s → G' t = G t :=
    ⟨fun t => if t = c.s then .slice (some ⟨g, 0, none⟩) ((ofS c.s done).length + 1) cap else G t, if_pos rfl, fun t h => if_neg h⟩
  have hkey : WideAt.IsKeyLit (lk c.s) := trivial
  refine ⟨W3, G', hrun, ?_, ?_, ?_, ?_, ?_, ?_, hg3⟩
  · have hlt : ∀ t, ofS t done ≠ [] → ∀ i, (G t).ownBlock = some i → M + 2 ≤ i ∧ i < wr.heap.size := by
      intro t ht i hi
      rcases (hR t ht).2.2 with ⟨hv, _⟩ | ⟨g', _, _, hv, hge, hgb, _⟩
      · rw [hv] at hi; simp [Value.ownBlock] at hi
      · rw [hv] at hi; simp [Value.ownBlock] at hi; subst hi; exact ⟨hge, (Array.getElem?_eq_some_iff.1 hgb).1⟩
    have hgM : M + 2 ≤ g := by
      rcases hb with hb | hb
      · exact hvb g hb
      · have := e.size; omega
    have hgne : ∀ t, ofS t done ≠ [] → t ≠ c.s → (G t).ownBlock ≠ some g := by
      intro t ht hts k
      have h1 := hlt t ht g k
      rcases hb with hb | hb
      · by_cases e0 : ofS c.s done = []
        · unfold valAt at hb; rw [if_pos e0] at hb; simp [Value.ownBlock] at hb
        · unfold valAt at hb; rw [if_neg e0] at hb
          exact hD t c.s ht e0 hts (k.trans hb.symm)
      · have := e.size; omega
    have hold : ∀ t, t ≠ c.s → ofS t (done ++ [c]) = ofS t done := by
      intro t ht
      rw [ofS_append, ofS_one, if_neg (fun k => ht k.symm), List.append_nil]
    have hnew : ofS c.s (done ++ [c]) = ofS c.s done ++ [c] := by rw [ofS_append, ofS_one, if_pos rfl]
    refine ⟨D.put (lk c.s) (.held (.slice (some ⟨g, 0, none⟩) ((ofS c.s done).length + 1) cap)), by simpa using hM3, ?_, ?_, ?_, ?_⟩
    · intro s
      by_cases hsc : s = c.s
      · subst hsc; rw [hnew]
        exact ⟨fun _ => by simp, fun _ => has_put_same hM2.isMap hkey _⟩
      · rw [hold s hsc, has_put_other (fun k => hsc (lk_inj k))]; exact hH s
    · intro s hs'
      by_cases hsc : s = c.s
      · subst hsc
        refine ⟨fun z => by rw [hG1]; exact atKey_put_same hM2.isMap hkey _ _, ?_⟩
        rw [hG1, hnew]
        unfold CoRow
        rw [List.length_append, List.map_append, flat2_append]
        exact hown.kept hg3 (Or.inr (by simp [Value.ownBlock]; omega))
      · rw [hold s hsc] at hs' ⊢
        refine ⟨fun z => by rw [hG2 s hsc, atKey_put_other (fun k => hsc (lk_inj k))]; exact (hR s hs').1 z, ?_⟩
        rw [hG2 s hsc]
        have r1 := owns_ext (hR s hs').2 e
        have r2 := r1.kept hg (by
          by_cases e0 : ofS c.s done = []
          · have : (valAt G done c.s).ownBlock = none := by unfold valAt; rw [if_pos e0]; rfl
            rw [this]; exact (Classical.em ((G s).ownBlock = none))
          · have : valAt G done c.s = G c.s := by unfold valAt; rw [if_neg e0]
            rw [this]; exact Or.inr (hD s c.s hs' e0 hsc))
        exact r2.kept hg3 (Or.inr (fun k => by have := hlt s hs' M k; omega))
    · intro s t hs' ht' hst
      by_cases hsc : s = c.s
      · have htc : t ≠ c.s := fun k => hst (hsc.trans k.symm)
        rw [hold t htc] at ht'
        subst hsc
        rw [hG1, hG2 t htc]
        intro k; exact hgne t ht' htc k.symm
      · rw [hold s hsc] at hs'
        by_cases htc : t = c.s
        · subst htc; rw [hG2 s hsc, hG1]; exact hgne s hs' hsc
        · rw [hold t htc] at ht'
          rw [hG2 s hsc, hG2 t htc]; exact hD s t hs' ht' hst
    · exact Nat.le_trans hsz (Nat.le_trans e.size (Nat.le_trans hg.size hg3.size))
  · intro i hi hne
    rw [hg3.block i (by have := hg.size; have := e.size; omega) (fun k => hne (Option.some.inj k)), hg.block i (by have := e.size; omega) (fun k => by have := hvb i k.symm; omega), e.block i (by omega)]
  · exact hg3.os.trans (hg.os.trans e.os)
  · exact hg3.tape.trans (hg.tape.trans e.tape)
  · exact hg3.output.trans (hg.output.trans e.output)
  · exact Nat.le_trans e.size (Nat.le_trans hg.size hg3.size)
/-- All that the round's walk wants of the append and of the store. -/
theorem grp_arm {w wr W W2 : World} {done : List Co} {G : ByteArray → Value} (h : Grp wr w.heap.size done G) (hE : Ext w wr) (c : Co) (hs : c.s.size ≤ maxLen) (hd : done.length < 50) (e : Ext wr W) {kk g cap : Nat} (hkk : kk = (ofS c.s done).length)
    {v a0 a1 : Value} (hv : v = valAt G done c.s)
    (hown : W2.ownsRow (w.heap.size + 2) 81 2 (.slice (some ⟨g, 0, none⟩) (kk + 1) cap) (kk + 1) (flat2 ((ofS c.s done).map Co.pair) ++ [.string c.s, .pointer (some ⟨c.b, 0, none⟩)]))
    (hg : W.grownBy W2 v.ownBlock) (hb : v.ownBlock = some g ∨ g = W.heap.size) (s0 : W.cell? ⟨wr.heap.size, 0, none⟩ = some a0) (s1 : W.cell? ⟨wr.heap.size, 1, none⟩ = some a1) :
    (W2.cell? ⟨wr.heap.size, 0, none⟩ = some a0 ∧ W2.cell? ⟨wr.heap.size, 1, none⟩ = some a1) ∧
    ∃ W3 G3, (Instr.mapUpdate 122 (.map (some w.heap.size)) (.string c.s) (.slice (some ⟨g, 0, none⟩) (kk + 1) cap)).run Tryz.prog W2 = .ok () W3 ∧ Grp W3 w.heap.size (done ++ [c]) G3 ∧ Ext w W3 ∧
      W3.heap[w.heap.size + 1]? = wr.heap[w.heap.size + 1]? ∧ (W3.cell? ⟨wr.heap.size, 0, none⟩ = some a0 ∧ W3.cell? ⟨wr.heap.size, 1, none⟩ = some a1) := by
  subst hkk; subst hv
  have hrow := grp_row h c.s
  have hM : w.heap.size + 2 ≤ wr.heap.size := by obtain ⟨_, _, _, _, _, k⟩ := h; exact k
  have hne : (valAt G done c.s).ownBlock ≠ some wr.heap.size := by
    rcases hrow.2 with ⟨hv, _⟩ | ⟨g', _, _, hv, hge, hgb, _⟩
    · rw [hv]; simp [Value.ownBlock]
    · rw [hv]; simp [Value.ownBlock]
      have := (Array.getElem?_eq_some_iff.1 hgb).1; omega
  have t0 := (hg.cell_far ⟨wr.heap.size, 0, none⟩ (cell_lt s0) (fun k => hne k.symm)).trans s0
  have t1 := (hg.cell_far ⟨wr.heap.size, 1, none⟩ (cell_lt s1) (fun k => hne k.symm)).trans s1
  obtain ⟨W3, G3, h1, h2, h3, h4, h5, h6, h7, h8⟩ := grp_step h c hs (by omega) e hown hg hb
  refine ⟨⟨t0, t1⟩, W3, G3, h1, h2, ⟨h4.trans hE.os, h5.trans hE.tape, h6.trans hE.output, Nat.le_trans hE.size h7, fun i hi => (h3 i (by omega) (by omega)).trans (hE.block i hi)⟩, h3 _ (by omega) (by omega), ?_, ?_⟩
  · exact (h8.cell_far ⟨wr.heap.size, 0, none⟩ (cell_lt t0) (fun k => by have := Option.some.inj k; simp at this; omega)).trans t0
  · exact (h8.cell_far ⟨wr.heap.size, 1, none⟩ (cell_lt t1) (fun k => by have := Option.some.inj k; simp at this; omega)).trans t1
theorem grp_start (w : World) {W : World} (hM : W.heap[w.heap.size]? = some (.map #[] 0)) (hs : w.heap.size + 2 ≤ W.heap.size) (G : ByteArray → Value) : Grp W w.heap.size [] G :=
  ⟨.map [], ownsMap_of_block (w := w.alloc (.map #[] 0)) (World.ownsMap_made _ _ _ _) (by rw [hM, heap_alloc_new]), fun s => by simp [ofS, has], fun s h => absurd rfl h, fun s t h => absurd rfl h, hs⟩
end Go.Proofs.YtagfbefgcijegaaGreatDoor
