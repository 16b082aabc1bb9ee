/-
  append of a list of records onto a row of the call's own.
-/
import Derived.Test.YtfafiahefjimdaaGreatDoorHG
namespace Go.Proofs.YtfafiahefjimdaaGreatDoor
open Go Go.RowKit

theorem flat2_all {Q : Nat → Value → Prop} (ps : List (Value × Value)) (h : ∀ j (hj : j < ps.length), Q (j * 2) ps[j].1 ∧ Q (j * 2 + 1) ps[j].2) : ∀ i u, (flat2 ps)[i]? = some u → Q i u := by
  intro i u hu
  have hi : i < (flat2 ps).length := (List.getElem?_eq_some_iff.1 hu).1
  rw [flat2_length] at hi
  have hj : i / 2 < ps.length := by omega
  obtain ⟨h1, h2⟩ := flat2_get ps (i / 2) hj
  obtain ⟨q1, q2⟩ := h (i / 2) hj
  rcases Nat.mod_two_eq_zero_or_one i with e | e
  · have : i / 2 * 2 = i := by omega
    rw [this] at h1 q1
    rw [h1] at hu; injection hu with hu; rw [← hu]; exact q1
  · have : i / 2 * 2 + 1 = i := by omega
    rw [this] at h2 q2
    rw [h2] at hu; injection hu with hu; rw [← hu]; exact q2
theorem grown_ext {w w' : World} {base n k : Nat} {E : TypeId} {v : Value} {xs : List Value} (h : w.ownsRow base E k v n xs) (hg : w.grownBy w' v.ownBlock) : ∀ w0, Ext w0 w → w0.heap.size ≤ base → Ext w0 w' :=
  fun _ e0 hb => Below.grown e0 hg e0.size (fun g hv => Nat.le_trans hb (h.lt g hv).1)
theorem own_cap {w : World} {base n k : Nat} {E : TypeId} {v : Value} {xs : List Value} (h : w.ownsRow base E k v n xs) : ∃ A c, v = .slice A n c ∧ n ≤ c := by
  rcases h.2 with ⟨rfl, rfl⟩ | ⟨g, cap, _, rfl, _, _, hn, _⟩
  · exact ⟨_, _, rfl, Nat.le_refl _⟩
  · exact ⟨_, _, rfl, hn⟩

theorem wpList_append_plain {P : Program} {w : World} {ops : Array Oper} {rest : List Oper} {o : Oper} {a : Act} {Q : Exit → Act → World → Prop} (hw : Region.wanted o (yielded ops a.tmps) = true) (s x : Operand) (t E : TypeId)
    (ho : o.op = .call { callee := .builtin .append, args := #[s, x], argTypes := #[t, t] }) (base : Nat) (i : TypeInfo) (z : Value) (ht : P.underlying t = some (.slice E)) (hi : P.info? E = some i) (hz : i.zero = some z)
    (hsize : i.size = 2) (hby : i.bytes = 24) (hzs : z.cells.size = 2) (v : Value) (l : List (ByteArray × Int)) (hs : a.eval s = v) (hown : PlainOwn w base E v l)
    (B : Option Addr) (m c : Nat) (l' : List (ByteArray × Int)) (hx : a.eval x = .slice B m c) (hm : l'.length = m) (hl' : PlainAt w B l') (hle : l.length + m ≤ 1000000) (hbase : base ≤ w.heap.size)
    (h : ∀ v' w', PlainOwn w' base E v' (l ++ l') → (∀ w0, Ext w0 w → w0.heap.size ≤ base → Ext w0 w') → wpList P ops Q rest (a.put o.dst v') w') :
    wpList P ops Q (o :: rest) a w := by
  by_cases h0 : l' = []
  · subst h0
    obtain rfl : m = 0 := by simpa using hm.symm
    obtain ⟨A, cap, rfl, hcap⟩ := own_cap hown
    refine wpList_step fun K hK => ?_
    rw [if_pos hw]
    have hr := run_append_none (P := P) w t o.type E i ht hi A B l.length cap c hcap
    unfold Oper.wp execOp
    simp only [ho, resolve, invoke, builtin, Sem.run_bind, Sem.run_pure, Result.andThen_ok, List.map_toArray, List.map_cons, List.map_nil, hs, hx, hr]
    exact hK _ _ (h _ w (by simpa using hown) fun _ e0 _ => e0)
  · obtain ⟨g, of, rfl, hc⟩ := hl' (by simpa using h0)
    have hnews : ∀ j u, (flat2 (l'.map plain))[j]? = some u → w.cell? ((⟨g, of, none⟩ : Addr).add j) = some u := by
      refine flat2_all (Q := fun i u => w.cell? ((⟨g, of, none⟩ : Addr).add i) = some u) _ fun j hj => ?_
      have hadd : ∀ i, (⟨g, of, none⟩ : Addr).add i = ⟨g, of + i, none⟩ := fun i => by unfold Addr.add; split <;> simp_all
      rw [hadd, hadd]
      exact hc j hj
    refine wpList_step fun K hK => ?_
    rw [if_pos hw]
    obtain ⟨v', w', hr, h2, h3, _, _⟩ := run_append_own_at (P := P) w base t o.type E i z 2 24 ht hi hz hsize hby hzs (by decide) v l.length (flat2 (l.map plain)) hown ⟨g, of, none⟩ m c (flat2 (l'.map plain)) (by rw [flat2_length]; simp [hm]) hnews (plain_one' l') (by unfold maxLen; omega) (by omega) hbase
    unfold Oper.wp execOp
    simp only [ho, resolve, invoke, builtin, Sem.run_bind, Sem.run_pure, Result.andThen_ok, List.map_toArray, List.map_cons, List.map_nil, hs, hx, hr]
    refine hK _ _ (h v' w' ?_ (grown_ext hown h3))
    unfold PlainOwn
    rw [List.length_append, hm, List.map_append, flat2_append]; exact h2
end Go.Proofs.YtfafiahefjimdaaGreatDoor
