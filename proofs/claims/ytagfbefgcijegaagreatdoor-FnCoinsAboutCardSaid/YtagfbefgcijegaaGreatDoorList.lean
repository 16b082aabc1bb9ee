/-
  Lists of records of two cells in memory; lists of coins.
-/
import Derived.Test.YtagfbefgcijegaaGreatDoorCoin2
import Derived.Deep.LoopGhost
import Derived.Deep.AppendLies
namespace Go.Proofs.YtagfbefgcijegaaGreatDoor
open Go Go.RowKit

/-- The cells of records of two. -/
def flat2 (l : List (Value × Value)) : List Value := l.flatMap fun p => [p.1, p.2]
theorem flat2_length (l : List (Value × Value)) : (flat2 l).length = l.length * 2 := by
  unfold flat2
  induction l with
  | nil => rfl
  | cons a l ih => simp only [List.flatMap_cons, List.length_append, ih, List.length_cons, List.length_nil]; omega
theorem flat2_append (l m : List (Value × Value)) : flat2 (l ++ m) = flat2 l ++ flat2 m := by simp [flat2]
theorem flat2_get (l : List (Value × Value)) (j : Nat) (h : j < l.length) : (flat2 l)[j * 2]? = some l[j].1 ∧ (flat2 l)[j * 2 + 1]? = some l[j].2 := by
  induction l generalizing j with
  | nil => simp at h
  | cons a l ih =>
    cases j with
    | zero => exact ⟨rfl, rfl⟩
    | succ j =>
      have := ih j (by simpa using h)
      refine ⟨?_, ?_⟩
      · rw [show (j + 1) * 2 = j * 2 + 1 + 1 by omega]; simpa [flat2] using this.1
      · rw [show (j + 1) * 2 + 1 = j * 2 + 1 + 1 + 1 by omega]; simpa [flat2] using this.2

/-- A slice value whose records are ps. -/
def RecAt (w : World) (A : Option Addr) (ps : List (Value × Value)) : Prop :=
  ps ≠ [] → ∃ g o, A = some ⟨g, o, none⟩ ∧ ∀ j (h : j < ps.length), w.cell? ⟨g, o + j * 2, none⟩ = some ps[j].1 ∧ w.cell? ⟨g, o + j * 2 + 1, none⟩ = some ps[j].2
theorem RecAt.ext {w w' : World} {A : Option Addr} {ps : List (Value × Value)} (h : RecAt w A ps) (e : Ext w w') : RecAt w' A ps := fun hn => by
  obtain ⟨g, o, ha, hc⟩ := h hn
  exact ⟨g, o, ha, fun j hj => ⟨e.cell' (hc j hj).1, e.cell' (hc j hj).2⟩⟩
theorem RecAt.nil (w : World) (A : Option Addr) : RecAt w A [] := fun h => absurd rfl h
theorem recAt_of_owns {w : World} {base : Nat} {E : TypeId} {A : Option Addr} {c : Nat} {ps : List (Value × Value)} {n : Nat} (hl : ps.length = n) (h : w.ownsRow base E 2 (.slice A n c) n (flat2 ps)) : RecAt w A ps := fun hn => by
  have hp : 0 < ps.length := List.length_pos_iff.2 hn
  obtain ⟨g, cap, hv, _, _⟩ := h.form (by omega)
  have hA : A = some ⟨g, 0, none⟩ := by injection hv
  subst hA
  have hc := h.cells (g := g) rfl
  refine ⟨g, 0, rfl, fun j hj => ?_⟩
  have h2 := flat2_get ps j hj
  have c1 := hc (j * 2) _ h2.1
  have c2 := hc (j * 2 + 1) _ h2.2
  refine ⟨?_, ?_⟩
  · simp only [Addr.add] at c1; split at c1 <;> simp_all
  · simp only [Addr.add] at c2; split at c2 <;> simp_all

/-- A coin as it lies in memory: its text, the block of its amount, the amount. -/
structure Co where
  s : ByteArray
  b : Nat
  z : Int
def Co.pair (c : Co) : Value × Value := (.string c.s, .pointer (some ⟨c.b, 0, none⟩))
def Co.val (c : Co) : ByteArray × Int := (c.s, c.z)
def plain (x : ByteArray × Int) : Value × Value := (.string x.1, .int .i64 x.2)
def PlainAt (w : World) (A : Option Addr) (l : List (ByteArray × Int)) : Prop := RecAt w A (l.map plain)
/-- The amounts of coins lie in memory. -/
def Bigs (w : World) (cs : List Co) : Prop := ∀ c ∈ cs, BigAt w c.b c.z
def CoinsAt (w : World) (A : Option Addr) (cs : List Co) : Prop := RecAt w A (cs.map Co.pair) ∧ Bigs w cs
theorem PlainAt.ext {w w' : World} {A : Option Addr} {l : List (ByteArray × Int)} (h : PlainAt w A l) (e : Ext w w') : PlainAt w' A l := RecAt.ext h e
theorem Bigs.ext {w w' : World} {cs : List Co} (h : Bigs w cs) (e : Ext w w') : Bigs w' cs := fun c hc => (h c hc).ext e
theorem CoinsAt.ext {w w' : World} {A : Option Addr} {cs : List Co} (h : CoinsAt w A cs) (e : Ext w w') : CoinsAt w' A cs := ⟨h.1.ext e, h.2.ext e⟩

/-- Coins in a row of the call's own. -/
def CoinsOwn (w : World) (base : Nat) (v : Value) (cs : List Co) : Prop := w.ownsRow base 81 2 v cs.length (flat2 (cs.map Co.pair)) ∧ Bigs w cs
theorem CoinsOwn.nil (w : World) (base : Nat) : CoinsOwn w base (.slice none 0 0) [] := ⟨World.ownsRow_nil _ _ _ _, fun _ h => by cases h⟩
theorem BigAt.grown {w w' : World} {b : Nat} {z : Int} {base n : Nat} {E : TypeId} {k : Nat} {v : Value} {xs : List Value} (h : BigAt w b z) (ho : w.ownsRow base E k v n xs) (hg : w.grownBy w' v.ownBlock) (h1 : 138 ≠ E := by decide) (h2 : 130 ≠ E := by decide) : BigAt w' b z := by
  rcases ho.2 with ⟨rfl, _⟩ | ⟨g, cap, cur, rfl, _, hh, _⟩
  · exact h.ext ⟨hg.os, hg.tape, hg.output, hg.size, fun i hi => hg.block i hi (by simp [Value.ownBlock])⟩
  · have hb : Blk w g E cur.toList := hh
    exact h.only (g := g) hg hb h1 h2

theorem owns_ext {w w' : World} {base n k : Nat} {E : TypeId} {v : Value} {xs : List Value} (h : w.ownsRow base E k v n xs) (e : Ext w w') : w'.ownsRow base E k v n xs := by
  refine ⟨h.1, ?_⟩
  rcases h.2 with h2 | ⟨g, cap, cur, hv, hg, hh, r⟩
  · exact Or.inl h2
  · exact Or.inr ⟨g, cap, cur, hv, hg, (e.block g (Array.getElem?_eq_some_iff.1 hh).1).trans hh, r⟩
theorem CoinsOwn.ext {w w' : World} {base : Nat} {v : Value} {cs : List Co} (h : CoinsOwn w base v cs) (e : Ext w w') : CoinsOwn w' base v cs := ⟨owns_ext h.1 e, h.2.ext e⟩
theorem ext_grown {w w1 w2 : World} {n k : Nat} {E : TypeId} {v : Value} {xs : List Value} (e : Ext w w1) (h : w1.ownsRow w.heap.size E k v n xs) (hg : w1.grownBy w2 v.ownBlock) : Ext w w2 :=
  Below.grown e hg e.size (fun g hv => (h.lt g hv).1)
/-- One coin more in a row of the call's own. -/
theorem coins_push {w w1 w2 : World} {v v' : Value} {cs : List Co} {s : ByteArray} {b : Nat} {z : Int} (h : CoinsOwn w1 w.heap.size v cs) (hB : BigAt w1 b z) (e : Ext w w1)
    (hown : w2.ownsRow w.heap.size 81 2 v' (cs.length + 1) (flat2 (cs.map Co.pair) ++ [.string s, .pointer (some ⟨b, 0, none⟩)])) (hg : w1.grownBy w2 v.ownBlock) :
    CoinsOwn w2 w.heap.size v' (cs ++ [⟨s, b, z⟩]) ∧ Ext w w2 := by
  refine ⟨⟨?_, fun c hc => ?_⟩, ext_grown e h.1 hg⟩
  · rw [List.length_append, List.map_append, flat2_append]; exact hown
  · rcases List.mem_append.1 hc with hc | hc
    · exact (h.2 c hc).grown h.1 hg
    · simp at hc; subst hc; exact hB.grown h.1 hg
theorem two_one (a b : Value) (ha : a.oneCell' = true) (hb : b.oneCell' = true) : ∀ u ∈ [a, b], u.oneCell' = true := by
  intro u hu
  simp at hu
  rcases hu with rfl | rfl <;> assumption

theorem infoCoin : (Tryz.prog.info? 81).map (fun i => (i.zero, i.size, i.bytes)) = some (some (.agg #[.string ByteArray.empty, .pointer none]), 2, 24) := by kernel_rfl
theorem infoPlan : (Tryz.prog.info? 37).map (fun i => (i.zero, i.size, i.bytes)) = some (some (.agg #[.string ByteArray.empty, .int .i64 0]), 2, 24) := by kernel_rfl

/-- Coins handed back. -/
def RetCoins (l : List (ByteArray × Int)) (w : World) (e : Ending) (w' : World) : Prop :=
  ∃ v cs, e = .returned v ∧ cs.map Co.val = l ∧ CoinsOwn w' w.heap.size v cs ∧ Ext w w'

set_option maxRecDepth 100000 in
set_option maxHeartbeats 400000 in
theorem iCoins (A : Option Addr) (n c : Nat) (l : List (ByteArray × Int)) (w : World) (hl : l.length = n) (hn : n ≤ 1000000) (h : PlainAt w A l) (hz : ∀ x ∈ l, -maxI ≤ x.2 ∧ x.2 ≤ maxI) :
    Calls Tryz.prog 72 #[.slice A n c] w (RetCoins l w) := by
  obtain ⟨i0, hi, hz0, hz1, hz2⟩ := info_parts infoCoin
  have HL := Lib.hid hl; have HP := Lib.hid h; have HZ := Lib.hid hz
  clear hl h hz
  go_enter Tryz.func72, Tryz.ntmps72
  go_wp2
  go_loopw [3, 8] (fun v i wr => ∃ (k : Nat) (cs : List Co), k ≤ n ∧ i = .int .i64 k ∧ cs.length = k ∧ cs.map Co.val = l.take k ∧ CoinsOwn wr w.heap.size v cs ∧ Ext w wr) (fun _ i _ => n - (intOf i).toNat)
  case atStart => exact ⟨0, [], Nat.zero_le _, rfl, rfl, rfl, CoinsOwn.nil _ _, Ext.refl _⟩
  case round =>
    obtain ⟨k, cs, hk, rfl, hcl, hcv, hown, hE⟩ := hrel
    have HC := Lib.hid hcl; have HV := Lib.hid hcv; have HO := Lib.hid hown; have HE := Lib.hid hE
    clear hcl hcv hown hE
    by_cases hlt : k < n
    · have hkl : k < l.length := by rw [HL.out]; exact hlt
      obtain ⟨s, hs⟩ : ∃ s, s = l[k].1 := ⟨_, rfl⟩
      obtain ⟨z, hzz⟩ : ∃ z, z = l[k].2 := ⟨_, rfl⟩
      obtain ⟨g, o, hA, hc⟩ := HP.out (by intro e; have := congrArg List.length e; simp at this; rw [this] at hkl; simp at hkl)
      subst hA
      have hck := hc k (by simpa using hkl)
      have cs0 : wr.cell? ⟨g, o + k * 2, none⟩ = some (.string s) := HE.out.cell' (by rw [hck.1, hs]; simp [plain])
      have cs1 : wr.cell? ⟨g, o + k * 2 + 1, none⟩ = some (.int .i64 z) := HE.out.cell' (by rw [hck.2, hzz]; simp [plain])
      have HS := Lib.hid hs; have HZZ := Lib.hid hzz; clear hs hzz hck hc
      go_wp2_with (first | (go_at_call 83; refine (iCoin s z _ (by rw [HZZ.out]; exact (HZ.out _ (List.getElem_mem _)).1) (by rw [HZZ.out]; exact (HZ.out _ (List.getElem_mem _)).2)).mono ?_; rintro e w1 ⟨b, rfl, hB, hE1⟩; have HB := Lib.hid hB; have HE1 := Lib.hid ((ext1 _ _).trans' hE1); clear hB hE1) | (at_builtin; refine wpList_append_own_at _ rfl (.tmp 12) (.tmp 15) 71 rfl w.heap.size 81 i0 _ 2 24 Tryz.underlying71 hi hz0 hz1 hz2 rfl (by decide) u3 cs.length (flat2 (cs.map Co.pair)) rfl (owns_ext (HO.out.ext HE1.out).1 (ext1 _ _)) ⟨w1.heap.size, 0, none⟩ 1 1 [.string s, .pointer (some ⟨b, 0, none⟩)] rfl rfl (cell_two_new _ _ _ _) (two_one _ _ rfl rfl) (by rw [HC.out]; unfold maxLen; omega) (by rw [HC.out]; omega) (by have := HE.out.size; have := HE1.out.size; simp; omega) ?_; intro v' w2 hown hgrow _ _; have R := Lib.hid (coins_push ((HO.out.ext HE1.out).ext (ext1 _ (coinBox s b))) (HB.out.ext (ext1 _ _)) ((HE.out.trans' HE1.out).trans' (ext1 _ _)) hown hgrow); clear hown hgrow))
      go_roundw
      case rel =>
        refine ⟨k + 1, cs ++ [⟨s, b, z⟩], by omega, by go_num, by simp [HC.out], ?_, R.out.1, R.out.2⟩
        rw [List.map_append, HV.out, List.take_succ_eq_append_getElem hkl, HS.out, HZZ.out]; rfl
      case measure => simp [intOf]; omega
    · obtain rfl : k = n := by omega
      go_wp2
      go_ret
      exact ⟨_, cs, rfl, by rw [HV.out, List.take_of_length_le (by rw [HL.out]; exact Nat.le_refl _)], HO.out, HE.out⟩
end Go.Proofs.YtagfbefgcijegaaGreatDoor
