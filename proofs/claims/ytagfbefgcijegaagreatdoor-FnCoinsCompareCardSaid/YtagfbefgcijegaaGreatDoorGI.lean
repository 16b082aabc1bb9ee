/-
  append of a list of records onto a row of the call's own.
  The contracts of Coins.Denoms and impl.DenomsOf.
  The contract of the reference's SumDenoms: the names of two lists, in order, each once.
  The contracts of the reference's SumJoined with its closures: SumTaken, SumLess, SumMore.
  The contracts of the reference's SumLess and SumMore.
-/
import Derived.Test.YtagfbefgcijegaaGreatDoorGF
import Derived.Test.YtagfbefgcijegaaGreatDoorGG
import Derived.Laws.OwnMore
import Derived.Deep.OwnRows
namespace Go.Proofs.YtagfbefgcijegaaGreatDoor
open Go Go.RowKit

theorem flat2_all {Q : Nat → Value → Prop} (ps : List (Value × Value)) (h : ∀ j (hj : j < ps.length), Q (j * 2) ps[j].1 ∧ Q (j * 2 + 1) ps[j].2) : ∀ i u, (flat2 ps)[i]? = some u → Q i u := by
  intro i u hu
  have hi : i < (flat2 ps).length := (List.getElem?_eq_some_iff.1 hu).1
  rw [flat2_length] at hi
  have hj : i / 2 < ps.length := by omega
  obtain ⟨h1, h2⟩ := flat2_get ps (i / 2) hj
  obtain ⟨q1, q2⟩ := h (i / 2) hj
  rcases Nat.mod_two_eq_zero_or_one i with e | e
  · have : i / 2 * 2 = i := by omega
    rw [this] at h1 q1
    rw [h1] at hu; injection hu with hu; rw [← hu]; exact q1
  · have : i / 2 * 2 + 1 = i := by omega
    rw [this] at h2 q2
    rw [h2] at hu; injection hu with hu; rw [← hu]; exact q2
theorem grown_ext {w w' : World} {base n k : Nat} {E : TypeId} {v : Value} {xs : List Value} (h : w.ownsRow base E k v n xs) (hg : w.grownBy w' v.ownBlock) : ∀ w0, Ext w0 w → w0.heap.size ≤ base → Ext w0 w' :=
  fun _ e0 hb => Below.grown e0 hg e0.size (fun g hv => Nat.le_trans hb (h.lt g hv).1)
theorem own_cap {w : World} {base n k : Nat} {E : TypeId} {v : Value} {xs : List Value} (h : w.ownsRow base E k v n xs) : ∃ A c, v = .slice A n c ∧ n ≤ c := by
  rcases h.2 with ⟨rfl, rfl⟩ | ⟨g, cap, _, rfl, _, _, hn, _⟩
  · exact ⟨_, _, rfl, Nat.le_refl _⟩
  · exact ⟨_, _, rfl, hn⟩

theorem wpList_append_plain {P : Program} {w : World} {ops : Array Oper} {rest : List Oper} {o : Oper} {a : Act} {Q : Exit → Act → World → Prop} (hw : Region.wanted o (yielded ops a.tmps) = true) (s x : Operand) (t E : TypeId)
    (ho : o.op = .call { callee := .builtin .append, args := #[s, x], argTypes := #[t, t] }) (base : Nat) (i : TypeInfo) (z : Value) (ht : P.underlying t = some (.slice E)) (hi : P.info? E = some i) (hz : i.zero = some z)
    (hsize : i.size = 2) (hby : i.bytes = 24) (hzs : z.cells.size = 2) (v : Value) (l : List (ByteArray × Int)) (hs : a.eval s = v) (hown : PlainOwn w base E v l)
    (B : Option Addr) (m c : Nat) (l' : List (ByteArray × Int)) (hx : a.eval x = .slice B m c) (hm : l'.length = m) (hl' : PlainAt w B l') (hle : l.length + m ≤ 1000000) (hbase : base ≤ w.heap.size)
    (h : ∀ v' w', PlainOwn w' base E v' (l ++ l') → (∀ w0, Ext w0 w → w0.heap.size ≤ base → Ext w0 w') → wpList P ops Q rest (a.put o.dst v') w') :
    wpList P ops Q (o :: rest) a w := by
  by_cases h0 : l' = []
  · subst h0
    obtain rfl : m = 0 := by simpa using hm.symm
    obtain ⟨A, cap, rfl, hcap⟩ := own_cap hown
    refine wpList_step fun K hK => ?_
    rw [if_pos hw]
    have hr := run_append_none (P := P) w t o.type E i ht hi A B l.length cap c hcap
    unfold Oper.wp execOp
    simp only [ho, resolve, invoke, builtin, Sem.run_bind, Sem.run_pure, Result.andThen_ok, List.map_toArray, List.map_cons, List.map_nil, hs, hx, hr]
    exact hK _ _ (h _ w (by simpa using hown) fun _ e0 _ => e0)
  · obtain ⟨g, of, rfl, hc⟩ := hl' (by simpa using h0)
    have hnews : ∀ j u, (flat2 (l'.map plain))[j]? = some u → w.cell? ((⟨g, of, none⟩ : Addr).add j) = some u := by
      refine flat2_all (Q := fun i u => w.cell? ((⟨g, of, none⟩ : Addr).add i) = some u) _ fun j hj => ?_
      have hadd : ∀ i, (⟨g, of, none⟩ : Addr).add i = ⟨g, of + i, none⟩ := fun i => by unfold Addr.add; split <;> simp_all
      rw [hadd, hadd]
      exact hc j hj
    refine wpList_step fun K hK => ?_
    rw [if_pos hw]
    obtain ⟨v', w', hr, h2, h3, _, _⟩ := run_append_own_at (P := P) w base t o.type E i z 2 24 ht hi hz hsize hby hzs (by decide) v l.length (flat2 (l.map plain)) hown ⟨g, of, none⟩ m c (flat2 (l'.map plain)) (by rw [flat2_length]; simp [hm]) hnews (plain_one' l') (by unfold maxLen; omega) (by omega) hbase
    unfold Oper.wp execOp
    simp only [ho, resolve, invoke, builtin, Sem.run_bind, Sem.run_pure, Result.andThen_ok, List.map_toArray, List.map_cons, List.map_nil, hs, hx, hr]
    refine hK _ _ (h v' w' ?_ (grown_ext hown h3))
    unfold PlainOwn
    rw [List.length_append, hm, List.map_append, flat2_append]; exact h2
end Go.Proofs.YtagfbefgcijegaaGreatDoor

namespace Go.Proofs.YtagfbefgcijegaaGreatDoor
open Go Go.RowKit

/-- Names, one behind the other. -/
def NamesAt (w : World) (A : Option Addr) (ns : List ByteArray) : Prop := ns ≠ [] → ∃ g o, A = some ⟨g, o, none⟩ ∧ ∀ j (h : j < ns.length), w.cell? ⟨g, o + j, none⟩ = some (.string ns[j])
theorem NamesAt.ext {w w' : World} {A : Option Addr} {ns : List ByteArray} (h : NamesAt w A ns) (e : Ext w w') : NamesAt w' A ns := fun hn => by
  obtain ⟨g, o, ha, hc⟩ := h hn
  exact ⟨g, o, ha, fun j hj => e.cell' (hc j hj)⟩
def RetNames (ns : List ByteArray) (w : World) (e : Ending) (w' : World) : Prop := ∃ A, e = .returned (.slice A ns.length ns.length) ∧ NamesAt w' A ns ∧ Ext w w'
theorem infoName : (Tryz.prog.info? 9).map (fun i => (i.zero, i.size, i.bytes)) = some (some (.string ByteArray.empty), 1, 16) := by kernel_rfl
/-- The first k names laid. -/
def pn (ns : List ByteArray) (k n : Nat) : List Value := (ns.take k).map Value.string ++ List.replicate (n - k) (.string ByteArray.empty)
theorem pn_set {ns : List ByteArray} {k n : Nat} (hn : ns.length = n) (hk : k < ns.length) : (pn ns k n).set k (.string ns[k]) = pn ns (k + 1) n := by
  have hl : ((ns.take k).map Value.string).length = k := by simp; omega
  unfold pn
  rw [List.set_append_right _ _ (by omega), hl, Nat.sub_self, show n - k = n - (k + 1) + 1 by omega, List.replicate_succ, List.set_cons_zero, List.take_succ_eq_append_getElem hk, List.map_append]
  simp only [List.map_cons, List.map_nil, List.append_assoc, List.cons_append, List.nil_append]
theorem pn_len {ns : List ByteArray} {k n : Nat} (hn : ns.length = n) (hk : k ≤ n) : (pn ns k n).length = n := by unfold pn; simp; omega
theorem pn_full {ns : List ByteArray} {n : Nat} (hn : ns.length = n) : pn ns n n = ns.map Value.string := by unfold pn; simp [← hn]

set_option maxRecDepth 100000 in
set_option maxHeartbeats 1000000 in
theorem tDenoms (A : Option Addr) (n c : Nat) (l : List Co) (w : World) (hl : l.length = n) (hn : n ≤ 1000000) (h : CoinsAt w A l) :
    Calls Tryz.prog 82 #[.slice A n c] w (RetNames (l.map Co.s) w) := by
  obtain ⟨i0, hi, hz0, hz1, hz2⟩ := info_parts infoName
  obtain ⟨ns, hns⟩ : ∃ ns, ns = l.map Co.s := ⟨_, rfl⟩
  have HL := Lib.hid hl; have HP := Lib.hid h; have HNS := Lib.hid hns; have HNL := Lib.hid (show ns.length = n by rw [hns]; simp [hl])
  rw [← hns]
  clear hl h hns
  go_enter Tryz.func82, Tryz.ntmps82
  go_wp2_with (first | (at_make; refine wpList_make_row _ rfl _ _ 41 rfl 9 i0 _ Tryz.underlying41 hi hz0 hz1 rfl .i64 .i64 n rfl rfl (by rw [hz2]; omega) (by omega) ?_))
  go_loopw [11] (fun i wr => ∃ (k : Nat), k ≤ n ∧ i = .int .i64 k ∧ Blk wr w.heap.size 9 (pn ns k n) ∧ Ext w wr) (fun i _ => n - (intOf i).toNat)
  case atStart =>
    refine ⟨0, Nat.zero_le _, rfl, ?_, Ext.alloc' _ _⟩
    have := Blk.new w 9 (madeCells #[Value.string ByteArray.empty] n).toList
    rw [toList_madeCells_one] at this
    unfold pn
    simp only [List.take_zero, List.map_nil, List.nil_append, Nat.sub_zero]
    have e : (madeCells #[Value.string ByteArray.empty] n) = (List.replicate n (Value.string ByteArray.empty)).toArray := by rw [← toList_madeCells_one]
    first | (rw [e]; exact this) | exact this
  case round =>
    obtain ⟨k, hk, rfl, hb, hE⟩ := hrel
    have HB := Lib.hid hb; have HE := Lib.hid hE
    clear hb hE
    by_cases hlt : k < n
    · have hkl : k < l.length := by rw [HL.out]; exact hlt
      obtain ⟨s, hs⟩ : ∃ s, s = l[k].s := ⟨_, rfl⟩
      obtain ⟨b, hbb⟩ : ∃ b, b = l[k].b := ⟨_, rfl⟩
      obtain ⟨g, o, hA, hc⟩ := HP.out.1 (by intro e; have := congrArg List.length e; simp at this; rw [this] at hkl; simp at hkl)
      subst hA
      have hck := hc k (by simpa using hkl)
      have cs0 : wr.cell? ⟨g, o + k * 2, none⟩ = some (.string s) := HE.out.cell' (by rw [hck.1, hs]; simp [Co.pair])
      have cs1 : wr.cell? ⟨g, o + k * 2 + 1, none⟩ = some (.pointer (some ⟨b, 0, none⟩)) := HE.out.cell' (by rw [hck.2, hbb]; simp [Co.pair])
      have HK := Lib.hid (HB.out.alloc (coinBox s b))
      obtain ⟨u, hu⟩ := HK.out.old k (by rw [pn_len HNL.out hk]; exact hlt)
      have hf := HK.out.frozen k
      have hkn : k < ns.length := by rw [HNL.out]; exact hlt
      have HS := Lib.hid (show Value.string s = Value.string ns[k] by congr 1; rw [hs]; simp [HNS.out])
      have b0 : (0 : Int) ≤ (k : Int) := by omega
      have b1 : (k : Int) < (n : Int) := by omega
      clear hs hbb hck hc
      go_wp2
      go_roundw
      case rel =>
        refine ⟨k + 1, by omega, by go_num, ?_, Only.ext (HE.out.trans' (Ext.alloc' _ _)) ((Only.refl w.heap.size _).set_ k _) (Nat.le_refl _)⟩
        have := HK.out.set_ k (.string s)
        have e := pn_set HNL.out hkn
        rw [← HS.out] at e
        rw [e] at this; exact this
      case measure => simp [intOf]; omega
    · obtain rfl : k = n := by omega
      go_wp2
      go_ret
      have hb := HB.out
      rw [pn_full HNL.out] at hb
      refine ⟨some ⟨w.heap.size, 0, none⟩, by rw [HNL.out]; rfl, fun _ => ⟨w.heap.size, 0, rfl, fun j hj => ?_⟩, HE.out⟩
      rw [Nat.zero_add, hb.cell, List.getElem?_map, List.getElem?_eq_getElem hj]; rfl

set_option maxRecDepth 100000 in
theorem iDenomsOf (A : Option Addr) (n c : Nat) (l : List (ByteArray × Int)) (w : World) (hl : l.length = n) (hn : n ≤ 1000) (h : PlainAt w A l) (hz : ∀ x ∈ l, -maxI ≤ x.2 ∧ x.2 ≤ maxI) :
    Calls Tryz.prog 36 #[.slice A n c] w (RetNames (l.map Prod.fst) w) := by
  have H1 := Lib.hid (iCoins A n c l w hl (by omega) h hz)
  have HL := Lib.hid hl
  clear hl h hz
  go_enter Tryz.func36, Tryz.ntmps36
  go_wp2_with (fail)
  go_at_call 72
  refine H1.out.mono ?_
  rintro e w1 ⟨v, cs, rfl, hcv, hown, hE⟩
  obtain ⟨A1, c1, rfl⟩ := coins_shape hown
  have HO := Lib.hid (own_at hown).1; have HV := Lib.hid hcv; have HE := Lib.hid hE; have HN := Lib.hid (show cs.length = n by rw [← HL.out, ← hcv]; simp)
  clear hown hcv hE
  go_wp2_with (fail)
  go_at_call 82
  refine (tDenoms A1 cs.length c1 cs _ rfl (by have := HN.out; omega) HO.out).mono ?_
  rintro e w2 ⟨B, rfl, hN, hE2⟩
  have HR := Lib.hid (And.intro hN hE2)
  clear hN hE2
  go_wp2
  go_ret
  rw [← fst_of HV.out]
  exact ⟨B, by simp, HR.out.1, HE.out.trans' HR.out.2⟩

theorem names_n {w w' : World} {e : Ending} {l : List (ByteArray × Int)} {n : Nat} (h : RetNames (l.map Prod.fst) w e w') (hn : l.length = n) : ∃ A, e = .returned (.slice A n n) ∧ NamesAt w' A (l.map Prod.fst) ∧ Ext w w' := by
  subst hn
  obtain ⟨A, he, hN, hE⟩ := h
  rw [List.length_map] at he
  exact ⟨A, he, hN, hE⟩
theorem find_amount {l : List (ByteArray × Int)} {d : ByteArray} (hs : l.Pairwise fun a b => keyLt a.1 b.1 = true) (hp : ∀ x ∈ l, 0 < x.2) : ((∃ y ∈ l, y.1 = d) ∧ 0 < totalP d l) ∨ (∀ y ∈ l, y.1 ≠ d) ∧ totalP d l = 0 := by
  by_cases h : ∃ y ∈ l, y.1 = d
  · refine Or.inl ⟨h, ?_⟩
    obtain ⟨y, hy, rfl⟩ := h
    rw [tot_get hs hy]; exact hp y hy
  · have h' : ∀ y ∈ l, y.1 ≠ d := fun y hy e => h ⟨y, hy, e⟩
    exact Or.inr ⟨h', totalP_none h'⟩
theorem total_max {l : List (ByteArray × Int)} {d : ByteArray} (hs : l.Pairwise fun a b => keyLt a.1 b.1 = true) (hb : ∀ x ∈ l, -maxI ≤ x.2 ∧ x.2 ≤ maxI) : -maxI ≤ totalP d l ∧ totalP d l ≤ maxI := by
  by_cases h : ∃ y ∈ l, y.1 = d
  · obtain ⟨y, hy, rfl⟩ := h
    rw [tot_get hs hy]; exact hb y hy
  · rw [totalP_none fun y hy e => h ⟨y, hy, e⟩]; unfold maxI; omega
theorem findin_some {l : List (ByteArray × Int)} {d : ByteArray} {w w' : World} {e : Ending} (h : RetFindIn l d w e w') (hs : l.Pairwise fun a b => keyLt a.1 b.1 = true) (hy : ∃ y ∈ l, y.1 = d) : e = .returned (.tuple #[.agg #[.string d, .int .i64 (totalP d l)], .bool true]) ∧ Ext w w' := by
  obtain ⟨h1, h2⟩ := h
  refine ⟨?_, h2⟩
  rcases h1 with ⟨_, hno⟩ | ⟨x, hx, rfl, rfl⟩
  · obtain ⟨y, hy, e⟩ := hy
    exact absurd e (hno y hy)
  · rw [tot_get hs hx]
theorem findin_none {l : List (ByteArray × Int)} {d : ByteArray} {w w' : World} {e : Ending} (h : RetFindIn l d w e w') (_ : l.Pairwise fun a b => keyLt a.1 b.1 = true) (hno : ∀ y ∈ l, y.1 ≠ d) : e = .returned (.tuple #[.agg #[.string ⟨#[]⟩, .int .i64 0], .bool false]) ∧ Ext w w' := by
  obtain ⟨h1, h2⟩ := h
  refine ⟨?_, h2⟩
  rcases h1 with ⟨rfl, _⟩ | ⟨x, hx, hd, _⟩
  · rfl
  · exact absurd hd (hno x hx)
end Go.Proofs.YtagfbefgcijegaaGreatDoor

namespace Go.Proofs.YtagfbefgcijegaaGreatDoor
open Go Go.RowKit

/-- Names in a row of the call's own. -/
def NamesOwn (w : World) (base : Nat) (v : Value) (ns : List ByteArray) : Prop := w.ownsRow base 9 1 v ns.length (ns.map Value.string)
theorem NamesOwn.nil (w : World) (base : Nat) : NamesOwn w base (.slice none 0 0) [] := World.ownsRow_nil _ _ _ _
theorem NamesOwn.ext {w w' : World} {base : Nat} {v : Value} {ns : List ByteArray} (h : NamesOwn w base v ns) (e : Ext w w') : NamesOwn w' base v ns := owns_ext h e
theorem names_at {w : World} {base : Nat} {v : Value} {ns : List ByteArray} (h : NamesOwn w base v ns) : ∃ A c, v = .slice A ns.length c ∧ NamesAt w A ns := by
  rcases h.2 with ⟨rfl, h0⟩ | ⟨g, cap, cur, rfl, _, hh, hn, _, _, ht⟩
  · exact ⟨none, 0, by rw [h0], fun hne => absurd (List.length_eq_zero_iff.1 h0) hne⟩
  · refine ⟨some ⟨g, 0, none⟩, cap, rfl, fun _ => ⟨g, 0, rfl, fun j hj => ?_⟩⟩
    have hk : Blk w g 9 cur.toList := by unfold Blk; simpa using hh
    rw [Nat.zero_add, hk.cell]
    have := congrArg (fun l => l[j]?) ht
    simp only [Nat.mul_one] at this
    rw [List.getElem?_take, if_pos hj] at this
    rw [this]; simp [hj]
theorem names_last {w : World} {base : Nat} {v : Value} {ini : List ByteArray} {t : ByteArray} (h : NamesOwn w base v (ini ++ [t])) :
    ∃ g c, v = .slice (some ⟨g, 0, none⟩) (ini.length + 1) c ∧ w.cell? ⟨g, ini.length, none⟩ = some (.string t) := by
  obtain ⟨A, c, rfl, hc⟩ := names_at h
  obtain ⟨g, o, rfl, hcell⟩ := hc (by simp)
  obtain ⟨g', cap, hv, _, _⟩ := h.form (by simp)
  injection hv with h1 h2 h3
  injection h1 with h1; injection h1 with h4 h5
  subst h5
  have := hcell ini.length (by simp)
  rw [Nat.zero_add] at this
  exact ⟨g, c, by simp, by rw [this]; simp⟩
theorem names_push {w w1 w2 : World} {v v' : Value} {ns : List ByteArray} {s : ByteArray} {base : Nat} (h : NamesOwn w1 base v ns) (hown : w2.ownsRow base 9 1 v' (ns.length + 1) (ns.map Value.string ++ [.string s])) (hg : w1.grownBy w2 v.ownBlock) (e : Ext w w1) (hb : w.heap.size ≤ base) :
    NamesOwn w2 base v' (ns ++ [s]) ∧ Ext w w2 := by
  refine ⟨?_, grown_ext h hg w e hb⟩
  unfold NamesOwn
  rw [List.length_append, List.map_append]; exact hown
/-- The names of a part of the coins. -/
def NamI (p : List (ByteArray × Int)) (ns : List ByteArray) : Prop := ns.Pairwise (fun a b => keyLt a b = true) ∧ ∀ s, s ∈ ns ↔ ∃ x ∈ p, x.1 = s
theorem namI_nil : NamI [] [] := ⟨List.Pairwise.nil, fun s => by simp⟩
theorem namI_new {p : List (ByteArray × Int)} {ns : List ByteArray} {c : ByteArray × Int} (h : NamI p ns) (hlt : ∀ t ∈ ns, keyLt t c.1 = true) : NamI (p ++ [c]) (ns ++ [c.1]) := by
  refine ⟨?_, fun s => ?_⟩
  · rw [List.pairwise_append]
    exact ⟨h.1, by simp, fun a ha b hb => by simp at hb; subst hb; exact hlt a ha⟩
  · have := h.2 s
    simp only [List.mem_append, List.mem_singleton, or_and_right, exists_or]
    rw [this]
    constructor
    · rintro (h | rfl)
      · exact Or.inl h
      · exact Or.inr ⟨c, rfl, rfl⟩
    · rintro (h | ⟨x, rfl, rfl⟩)
      · exact Or.inl h
      · exact Or.inr rfl
theorem namI_same {p : List (ByteArray × Int)} {ns : List ByteArray} {c : ByteArray × Int} (h : NamI p ns) (hc : c.1 ∈ ns) : NamI (p ++ [c]) ns := by
  refine ⟨h.1, fun s => ?_⟩
  have := h.2 s
  simp only [List.mem_append, List.mem_singleton, or_and_right, exists_or]
  rw [this]
  constructor
  · exact Or.inl
  · rintro (h | ⟨x, rfl, rfl⟩)
    · exact h
    · exact this.1 hc
theorem namI_lt {p : List (ByteArray × Int)} {ini : List ByteArray} {t : ByteArray} {c : ByteArray × Int} (h : NamI p (ini ++ [t])) (hp : ∀ y ∈ p, le y.1 c.1) (hne : t ≠ c.1) : ∀ y ∈ ini ++ [t], keyLt y c.1 = true := by
  obtain ⟨x, hx, e⟩ := (h.2 t).1 (by simp)
  have hlt : keyLt t c.1 = true := key_lt_of_le_ne (e ▸ hp x hx) hne
  intro y hy
  rw [List.mem_append, List.mem_singleton] at hy
  rcases hy with hy | rfl
  · have := h.1; rw [List.pairwise_append] at this
    exact keyLt_trans (this.2.2 y hy t (by simp)) hlt
  · exact hlt
theorem namI_len {p : List (ByteArray × Int)} {ns : List ByteArray} (h : NamI p ns) : ns.length ≤ p.length := by
  have h1 : ns.length ≤ (p.map Prod.fst).length := List.Nodup.length_le_of_subset (strict_nodup h.1) (fun s hs => by
    obtain ⟨x, hx, e⟩ := (h.2 s).1 hs
    exact List.mem_map.2 ⟨x, hx, e⟩)
  simpa using h1
theorem take_le2 {r : List (ByteArray × Int)} {k : Nat} {s : ByteArray} {z : Int} (h : r.Pairwise fun a b => le a.1 b.1) (hk : k < r.length) (he : r[k] = (s, z)) : ∀ y ∈ r.take k, le y.1 (s, z).1 := by
  intro y hy
  obtain ⟨j, hj, rfl⟩ := List.getElem_of_mem hy
  simp at hj
  rw [List.getElem_take, ← he]
  exact List.pairwise_iff_getElem.1 h j k (by omega) hk (by omega)
/-- The names of two lists handed back. -/
def RetDen (l : List (ByteArray × Int)) (w : World) (e : Ending) (w' : World) : Prop := ∃ v ns, e = .returned v ∧ NamesOwn w' w.heap.size v ns ∧ NamI l ns ∧ Ext w w'
theorem str_new (w : World) (o : Obj) (s : ByteArray) (n : Nat) : ∀ j u, [Value.string s][j]? = some u → (((w.alloc o).drewN n).alloc (.cells #[.string s] 9)).cell? ((⟨w.heap.size + 1, 0, none⟩ : Addr).add j) = some u := by
  have := cell_one_new ((w.alloc o).drewN n) (.string s) 9
  rwa [show ((w.alloc o).drewN n).heap.size = w.heap.size + 1 by simp] at this
theorem ini_last' {ns : List ByteArray} (h : ns ≠ []) : ∃ ini t, ns = ini ++ [t] := ⟨ns.dropLast, ns.getLast h, (List.dropLast_concat_getLast h).symm⟩

set_option maxRecDepth 100000 in
set_option maxHeartbeats 4000000 in
theorem sSumDenoms (A B : Option Addr) (n c m d : Nat) (l l' : List (ByteArray × Int)) (w : World) (hl : l.length = n) (hl' : l'.length = m) (hn : n + m ≤ 1000) (hA : PlainAt w A l) (hB : PlainAt w B l') :
    Calls Tryz.prog 144 #[.slice A n c, .slice B m d] w (RetDen (l ++ l') w) := by
  obtain ⟨i0, hi, hz0, hz1, hz2⟩ := info_parts infoSum
  obtain ⟨i1, hi1, hy0, hy1, hy2⟩ := info_parts infoName
  have HL := Lib.hid hl; have HL' := Lib.hid hl'; have HA := Lib.hid hA; have HB := Lib.hid hB
  have HLL := Lib.hid (show (l ++ l').length = n + m by rw [List.length_append, hl, hl'])
  clear hl hl' hA hB
  go_enter Tryz.func144, Tryz.ntmps144
  go_wp2_with (first | (at_builtin; refine wpList_append_plain (by rfl) _ _ 22 43 rfl w.heap.size i0 _ Tryz.underlying22 hi hz0 hz1 hz2 rfl _ l rfl HO1.out B m d l' rfl HL'.out (HB.out.ext HX1.out) (by have := HL.out; omega) HX1.out.size ?_; intro v2 w2 ho2 hx2; obtain ⟨B2, d2, hv, hp⟩ := pown_len ho2 HLL.out; subst hv; have HQ2 := Lib.hid hp; have HX2 := Lib.hid (hx2 w HX1.out (Nat.le_refl _)); clear hp ho2 hx2) | (at_builtin; refine wpList_append_plain (by rfl) _ _ 22 43 rfl w.heap.size i0 _ Tryz.underlying22 hi hz0 hz1 hz2 rfl _ ([] : List (ByteArray × Int)) rfl (PlainOwn.nil _ _ _) A n c l rfl HL.out HA.out (by rw [List.length_nil]; omega) (Nat.le_refl _) ?_; intro v1 w1 ho1 hx1; have HX1 := Lib.hid (hx1 w (Ext.refl _) (Nat.le_refl _)); have HO1 := Lib.hid (show PlainOwn _ _ _ _ l from ho1); clear ho1 hx1))
  go_at_call 31
  refine (sSumSorted B2 (n + m) d2 (l ++ l') _ HLL.out (by omega) HQ2.out).mono ?_
  rintro e w3 ⟨r, ⟨v3, rfl, ho3, hE3⟩, hperm, hsort⟩
  obtain ⟨B3, d3, hv, hp⟩ := pown_len ho3 (hperm.length_eq.trans HLL.out)
  subst hv
  obtain ⟨N, hN⟩ : ∃ N, N = n + m := ⟨_, rfl⟩
  rw [← hN]
  have HNN := Lib.hid (show N ≤ 1000 by omega)
  have HRL := Lib.hid (show r.length = N by rw [hperm.length_eq, HLL.out, hN])
  have HP := Lib.hid hp; have HE3 := Lib.hid (HX2.out.trans' hE3); have HPM := Lib.hid hperm; have HSO := Lib.hid hsort
  clear ho3 hp hE3 hperm hsort hN
  have hN5 := HNN.out
  go_wp2
  go_loopw [5, 14] (fun v i wr => ∃ (k : Nat) (ns : List ByteArray), k ≤ N ∧ i = .int .i64 k ∧ (NamI (r.take k) ns ∧ NamesOwn wr w3.heap.size v ns) ∧ Ext w3 wr) (fun _ i _ => N - (intOf i).toNat)
  case atStart => exact ⟨0, [], Nat.zero_le _, rfl, ⟨namI_nil, NamesOwn.nil _ _⟩, Ext.refl _⟩
  case round =>
    obtain ⟨k, ns, hk, rfl, ⟨hnam, hown⟩, hE⟩ := hrel
    have hol := namI_len hnam
    rw [List.length_take] at hol
    have HT := Lib.hid (And.intro hnam (show ns.length ≤ 1000 by omega)); have HO := Lib.hid hown; have HE := Lib.hid hE
    clear hnam hown hE hol
    by_cases hlt : k < N
    · have hkr : k < r.length := by rw [HRL.out]; exact hlt
      obtain ⟨s, hs⟩ : ∃ s, s = r[k].1 := ⟨_, rfl⟩
      obtain ⟨z, hzz⟩ : ∃ z, z = r[k].2 := ⟨_, rfl⟩
      obtain ⟨g, o, hA, hc⟩ := HP.out (by intro e; have := congrArg List.length e; simp at this; rw [this] at hkr; simp at hkr)
      subst hA
      have hck := hc k (by simpa using hkr)
      have cs0 : wr.cell? ⟨g, o + k * 2, none⟩ = some (.string s) := HE.out.cell' (by rw [hck.1, hs]; simp [plain])
      have cs1 : wr.cell? ⟨g, o + k * 2 + 1, none⟩ = some (.int .i64 z) := HE.out.cell' (by rw [hck.2, hzz]; simp [plain])
      have HX := Lib.hid (show r[k] = (s, z) by rw [hs, hzz])
      have HLE := Lib.hid (take_le2 HSO.out hkr HX.out)
      clear hs hzz hck hc
      by_cases h0 : ns = []
      · subst h0
        obtain ⟨A3, c3, hv3⟩ := own_slice HO.out
        subst hv3
        have HO' := Lib.hid (show wr.ownsRow w3.heap.size 9 1 (.slice A3 0 c3) 0 (([] : List ByteArray).map Value.string) from HO.out)
        go_wp2
        go_quiet (fail)
        go_wp2_with (first | (at_builtin; refine wpList_append_own_at _ rfl (.tmp 32) (.tmp 35) 41 rfl w3.heap.size 9 i1 _ 1 16 Tryz.underlying41 hi1 hy0 hy1 hy2 rfl (by decide) _ 0 (([] : List ByteArray).map Value.string) rfl (owns_ext HO'.out (ext_da _ _ _ _)) ⟨wr.heap.size + 1, 0, none⟩ 1 1 [.string s] rfl rfl (str_new _ _ _ _) (by intro u hu; simp at hu; subst hu; rfl) (by decide) (by decide) (by have := HE.out.size; simp; omega) ?_; intro v' w2 hown hgrow _ _; have R := Lib.hid (names_push (w := w3) (HO.out.ext (ext_da _ _ _ _)) hown hgrow (HE.out.trans' (ext_da _ _ _ _)) (Nat.le_refl _)); clear hown hgrow))
        go_roundw
        case rel =>
          refine ⟨k + 1, [s], by omega, by go_num, ⟨?_, R.out.1⟩, R.out.2⟩
          rw [List.take_succ_eq_append_getElem hkr, HX.out]; exact namI_new HT.out.1 (fun y hy => by simp at hy)
        case measure => simp [intOf]; omega
      · obtain ⟨ini, t, rfl⟩ := ini_last' h0
        obtain ⟨g3, c3, hv3, k0⟩ := names_last HO.out
        subst hv3
        have e3 : ini.length ≤ 1000 := by have := HT.out.2; rw [List.length_append, List.length_singleton] at this; omega
        have e0 : (0 : Int) ≤ (ini.length : Int) := by omega
        have e1 : (ini.length : Int) < (ini.length : Int) + 1 := by omega
        have e2 : ((ini.length : Int) + 1 == 0) = false := by simp; omega
        have g3l := cell_lt k0
        by_cases hst : t = s
        · subst hst
          go_wp2
          go_quiet (fail)
          go_wp2
          go_roundw
          case rel =>
            refine ⟨k + 1, ini ++ [t], by omega, by go_num, ⟨?_, HO.out.ext (by first | exact (Ext.alloc' _ _).trans' (Ext.drewN' _ _) | exact Ext.alloc' _ _)⟩, HE.out.trans' (by first | exact (Ext.alloc' _ _).trans' (Ext.drewN' _ _) | exact Ext.alloc' _ _)⟩
            rw [List.take_succ_eq_append_getElem hkr, HX.out]; exact namI_same HT.out.1 (by simp)
          case measure => simp [intOf]; omega
        · have hne : (t.toList == s.toList) = false := by rw [key_beq]; simpa using hst
          have HNE := Lib.hid hst
          clear hst
          have HO1 := Lib.hid (show wr.ownsRow w3.heap.size 9 1 (.slice (some ⟨g3, 0, none⟩) (ini.length + 1) c3) (ini.length + 1) ((ini ++ [t]).map Value.string) from by have := HO.out; unfold NamesOwn at this; rw [List.length_append, List.length_singleton] at this; exact this)
          go_wp2
          go_quiet (fail)
          go_wp2_with (first | (at_builtin; refine wpList_append_own_at _ rfl (.tmp 32) (.tmp 35) 41 rfl w3.heap.size 9 i1 _ 1 16 Tryz.underlying41 hi1 hy0 hy1 hy2 rfl (by decide) _ (ini.length + 1) ((ini ++ [t]).map Value.string) rfl (owns_ext HO1.out (ext_da _ _ _ _)) ⟨wr.heap.size + 1, 0, none⟩ 1 1 [.string s] rfl rfl (str_new _ _ _ _) (by intro u hu; simp at hu; subst hu; rfl) (by unfold maxLen; omega) (by omega) (by have := HE.out.size; simp; omega) ?_; intro v' w2 hown hgrow _ _; have R := Lib.hid (names_push (w := w3) (HO.out.ext (ext_da _ _ _ _)) (by rw [List.length_append, List.length_singleton]; exact hown) hgrow (HE.out.trans' (ext_da _ _ _ _)) (Nat.le_refl _)); clear hown hgrow))
          go_roundw
          case rel =>
            refine ⟨k + 1, ini ++ [t] ++ [s], by omega, by go_num, ⟨?_, R.out.1⟩, R.out.2⟩
            rw [List.take_succ_eq_append_getElem hkr, HX.out]; exact namI_new HT.out.1 (namI_lt HT.out.1 HLE.out HNE.out)
          case measure => simp [intOf]; omega
    · obtain rfl : k = N := by omega
      go_wp2
      go_ret
      have ht := HT.out.1
      rw [List.take_of_length_le (by rw [HRL.out]; exact Nat.le_refl _)] at ht
      exact ⟨_, ns, rfl, row_low HO.out HE3.out.size, ⟨ht.1, fun s => (ht.2 s).trans ⟨fun ⟨x, hx, e⟩ => ⟨x, HPM.out.mem_iff.1 hx, e⟩, fun ⟨x, hx, e⟩ => ⟨x, HPM.out.mem_iff.2 hx, e⟩⟩⟩, HE3.out.trans' HE.out⟩
end Go.Proofs.YtagfbefgcijegaaGreatDoor

namespace Go.Proofs.YtagfbefgcijegaaGreatDoor
open Go Go.RowKit

/-- The names with a number that is not 0. -/
def coalF (g : ByteArray → Int) (ks : List ByteArray) : List (ByteArray × Int) := ks.filterMap fun s => if g s = 0 then none else some (s, g s)
theorem coalF_cons (g : ByteArray → Int) (k : ByteArray) (ks : List ByteArray) : coalF g (k :: ks) = (if g k = 0 then [] else [(k, g k)]) ++ coalF g ks := by
  unfold coalF
  rw [List.filterMap_cons]
  by_cases h : g k = 0 <;> simp [h]
theorem coalF_append (g : ByteArray → Int) (ks ms : List ByteArray) : coalF g (ks ++ ms) = coalF g ks ++ coalF g ms := by unfold coalF; rw [List.filterMap_append]
theorem coalF_mem {g : ByteArray → Int} {ks : List ByteArray} {y : ByteArray × Int} (h : y ∈ coalF g ks) : y.1 ∈ ks ∧ y.2 = g y.1 ∧ y.2 ≠ 0 := by
  unfold coalF at h
  obtain ⟨s, hs, he⟩ := List.mem_filterMap.1 h
  split at he
  · cases he
  · injection he with he; subst he; exact ⟨hs, rfl, by assumption⟩
theorem coalF_total {g : ByteArray → Int} {ks : List ByteArray} (hk : ks.Nodup) (s : ByteArray) : (s ∈ ks → totalP s (coalF g ks) = g s) ∧ (s ∉ ks → totalP s (coalF g ks) = 0) := by
  induction ks with
  | nil => exact ⟨fun h => absurd h (by simp), fun _ => rfl⟩
  | cons k ks ih =>
    rw [List.nodup_cons] at hk
    obtain ⟨i1, i2⟩ := ih hk.2
    rw [coalF_cons, totalP_append]
    by_cases e : s = k
    · subst e
      refine ⟨fun _ => ?_, fun h => absurd (by simp) h⟩
      rw [i2 hk.1]
      by_cases h0 : g s = 0
      · rw [if_pos h0, totalP_nil, h0]; rfl
      · rw [if_neg h0, totalP_cons, if_pos rfl, totalP_nil]; omega
    · have h1 : totalP s (if g k = 0 then [] else [(k, g k)]) = 0 := by
        split
        · rfl
        · rw [totalP_cons, if_neg (fun h => e h.symm), totalP_nil]; rfl
      rw [h1]
      refine ⟨fun h => ?_, fun h => ?_⟩
      · rw [List.mem_cons] at h
        rw [i1 (h.resolve_left e)]; omega
      · rw [List.mem_cons] at h
        rw [i2 (fun k => h (Or.inr k))]; rfl
theorem coalF_strict {g : ByteArray → Int} {ks : List ByteArray} (h : ks.Pairwise fun a b => keyLt a b = true) : (coalF g ks).Pairwise fun a b => keyLt a.1 b.1 = true := by
  induction ks with
  | nil => exact List.Pairwise.nil
  | cons k ks ih =>
    rw [List.pairwise_cons] at h
    rw [coalF_cons, List.pairwise_append]
    refine ⟨by split <;> simp, ih h.2, fun a ha b hb => ?_⟩
    have hb' := (coalF_mem hb).1
    split at ha
    · simp at ha
    · simp at ha; subst ha; exact h.1 _ hb'
theorem coalF_len (g : ByteArray → Int) (ks : List ByteArray) : (coalF g ks).length ≤ ks.length := List.length_filterMap_le _ _
theorem total_abs {l : List (ByteArray × Int)} {m : Nat} (hs : l.Pairwise fun a b => keyLt a.1 b.1 = true) (hb : ∀ x ∈ l, x.2.natAbs ≤ m) (d : ByteArray) : (totalP d l).natAbs ≤ m := by
  by_cases h : ∃ y ∈ l, y.1 = d
  · obtain ⟨y, hy, rfl⟩ := h
    rw [tot_get hs hy]; exact hb y hy
  · rw [totalP_none fun y hy e => h ⟨y, hy, e⟩]; exact Nat.zero_le _
/-- What two sets have together, name by name. -/
def RetJoin (f : Int → Int → Int) (a b : List (ByteArray × Int)) (w : World) (e : Ending) (w' : World) : Prop :=
  ∃ r, RetPlain 43 r w e w' ∧ (r.Pairwise fun a b => keyLt a.1 b.1 = true) ∧ (∀ y ∈ r, y.2 ≠ 0) ∧ r.length ≤ a.length + b.length ∧ ∀ s, totalP s r = f (totalP s a) (totalP s b)
theorem join_end {f : Int → Int → Int} {a b : List (ByteArray × Int)} {ns : List ByteArray} (h0 : f 0 0 = 0) (h : NamI (a ++ b) ns) :
    ((coalF (fun s => f (totalP s a) (totalP s b)) ns).Pairwise fun a b => keyLt a.1 b.1 = true) ∧ (∀ y ∈ coalF (fun s => f (totalP s a) (totalP s b)) ns, y.2 ≠ 0) ∧ (coalF (fun s => f (totalP s a) (totalP s b)) ns).length ≤ a.length + b.length ∧
      ∀ s, totalP s (coalF (fun s => f (totalP s a) (totalP s b)) ns) = f (totalP s a) (totalP s b) := by
  refine ⟨coalF_strict h.1, fun y hy => (coalF_mem hy).2.2, ?_, fun s => ?_⟩
  · have h1 := coalF_len (fun s => f (totalP s a) (totalP s b)) ns
    have h2 := namI_len h
    rw [List.length_append] at h2; omega
  · by_cases hs : s ∈ ns
    · exact (coalF_total (strict_nodup h.1) s).1 hs
    · rw [(coalF_total (strict_nodup h.1) s).2 hs, totalP_none fun x hx e => hs ((h.2 s).2 ⟨x, List.mem_append_left _ hx, e⟩), totalP_none fun x hx e => hs ((h.2 s).2 ⟨x, List.mem_append_right _ hx, e⟩), h0]

set_option maxRecDepth 100000 in
theorem cTaken (y z : Int) (w : World) (hy : y.natAbs ≤ 1125899906842624) (hz : z.natAbs ≤ 1125899906842624) : Calls Tryz.prog 105 #[.int .i64 y, .int .i64 z] w (RetE (.int .i64 (y - z)) w) := by
  go_enter Tryz.func105, Tryz.ntmps105
  go_wp2
  go_ret
  exact ⟨rfl, Ext.refl _⟩

set_option maxRecDepth 100000 in
set_option maxHeartbeats 2000000 in
theorem jTaken (A B : Option Addr) (n c m d : Nat) (l l' : List (ByteArray × Int)) (w : World) (hl : l.length = n) (hl' : l'.length = m) (hn : n + m ≤ 1000) (hA : PlainAt w A l) (hB : PlainAt w B l')
    (hs : l.Pairwise fun a b => keyLt a.1 b.1 = true) (hs' : l'.Pairwise fun a b => keyLt a.1 b.1 = true) (hb : ∀ x ∈ l, x.2.natAbs ≤ 1125899906842624) (hb' : ∀ x ∈ l', x.2.natAbs ≤ 1125899906842624) :
    Calls Tryz.prog 104 #[.slice A n c, .slice B m d, .func (.func 105) #[] #[]] w (RetJoin (fun x y => x - y) l l' w) := by
  obtain ⟨i0, hi, hz0, hz1, hz2⟩ := info_parts infoSum
  have H1 := Lib.hid (sSumDenoms A B n c m d l l' w hl hl' hn hA hB)
  have HL := Lib.hid hl; have HL' := Lib.hid hl'; have HA := Lib.hid hA; have HB := Lib.hid hB; have HS := Lib.hid hs; have HS' := Lib.hid hs'; have HN := Lib.hid hn
  have HAB := Lib.hid (fun s => And.intro (total_abs hs hb s) (total_abs hs' hb' s))
  clear hl hl' hA hB hs hs' hb hb' hn
  go_enter Tryz.func104, Tryz.ntmps104
  go_wp2_with (fail)
  go_at_call 144
  refine H1.out.mono ?_
  rintro e w1 ⟨v, ns, rfl, hown, hnam, hE⟩
  obtain ⟨A1, c1, rfl, hat⟩ := names_at hown
  have HNA := Lib.hid hat; have HNM := Lib.hid hnam; have HE1 := Lib.hid hE
  obtain ⟨N, hN⟩ : ∃ N, N = ns.length := ⟨_, rfl⟩
  have HNL := Lib.hid (show N ≤ 1000 by have := namI_len hnam; rw [List.length_append] at this; have := HL.out; have := HL'.out; have := HN.out; omega)
  rw [← hN]
  have HNN := Lib.hid hN
  clear hown hnam hE hat hN
  have hN5 := HNL.out
  go_wp2
  go_loopw [7, 15] (fun v i wr => ∃ (k : Nat) (out : List (ByteArray × Int)), k ≤ N ∧ i = .int .i64 k ∧ out.length ≤ k ∧ (out = coalF (fun s => (fun x y => x - y) (totalP s l) (totalP s l')) (ns.take k) ∧ PlainOwn wr w1.heap.size 43 v out) ∧ Ext w1 wr) (fun _ i _ => N - (intOf i).toNat)
  case atStart => exact ⟨0, [], Nat.zero_le _, rfl, Nat.le_refl _, ⟨rfl, PlainOwn.nil _ _ _⟩, Ext.refl _⟩
  case round =>
    obtain ⟨k, out, hk, rfl, hol, ⟨hout, hown⟩, hE⟩ := hrel
    have HOL := Lib.hid hol; have HOUT := Lib.hid hout; have HO := Lib.hid hown; have HE := Lib.hid hE
    clear hol hout hown hE
    by_cases hlt : k < N
    · have hkr : k < ns.length := by rw [← HNN.out]; exact hlt
      obtain ⟨s, hss⟩ : ∃ s, s = ns[k] := ⟨_, rfl⟩
      obtain ⟨g, o, hA1, hc⟩ := HNA.out (by intro e; rw [e] at hkr; simp at hkr)
      subst hA1
      have cs0 : wr.cell? ⟨g, o + k, none⟩ = some (.string s) := HE.out.cell' (by rw [hc k hkr, hss])
      have HSS := Lib.hid hss
      clear hss hc
      have b0 : (0 : Int) ≤ (k : Int) := by omega
      obtain ⟨y, hy⟩ : ∃ y, y = totalP s l := ⟨_, rfl⟩
      obtain ⟨z, hz⟩ : ∃ z, z = totalP s l' := ⟨_, rfl⟩
      have HQ1 := Lib.hid (fun (W : World) (e : Ext w W) => sSumOf A n c l s W HL.out (by have := HN.out; omega) (HA.out.ext e) HS.out)
      have HQ2 := Lib.hid (fun (W : World) (e : Ext w W) => sSumOf B m d l' s W HL'.out (by have := HN.out; omega) (HB.out.ext e) HS'.out)
      have HQ3 := Lib.hid (fun (W : World) => cTaken y z W (by rw [hy]; exact (HAB.out s).1) (by rw [hz]; exact (HAB.out s).2))
      rw [← hy] at HQ1; rw [← hz] at HQ2
      obtain ⟨q, hq⟩ : ∃ q, q = y - z := ⟨_, rfl⟩
      rw [← hq] at HQ3
      have HF := Lib.hid (show (fun x y => x - y) (totalP s l) (totalP s l') = q by rw [← hy, ← hz, hq])
      have HWE := Lib.hid (HE1.out.trans' HE.out)
      clear hy hz hq
      have hcall : True := trivial
      by_cases h0 : q = 0
      · have H0 := Lib.hid h0
        subst h0
        go_wp2_with (first | (go_at_call 33; (with_reducible refine (HQ1.out _ HWE.out).mono ?_); rintro e w3 ⟨rfl, hE⟩; have HE3 := Lib.hid hE; clear hE) | (go_at_call 33; (with_reducible refine (HQ2.out _ (HWE.out.trans' HE3.out)).mono ?_); rintro e w4 ⟨rfl, hE⟩; have HE4 := Lib.hid (HE3.out.trans' hE); clear hE) | (go_at_call 105; (with_reducible refine (HQ3.out _).mono ?_); rintro e w5 ⟨rfl, hE⟩; have HE5 := Lib.hid (HE4.out.trans' hE); clear hE))
        go_roundw
        case rel =>
          refine ⟨k + 1, out, by omega, by go_num, by have := HOL.out; omega, ⟨?_, HO.out.ext HE5.out⟩, HE.out.trans' HE5.out⟩
          rw [List.take_succ_eq_append_getElem hkr, coalF_append, ← HOUT.out, ← HSS.out, coalF_cons, HF.out]; simp [coalF]
        case measure => simp [intOf]; omega
      · have d1 : (q == 0) = false := by simpa using h0
        have H0 := Lib.hid h0; clear h0
        go_wp2_with (first | (go_at_call 33; (with_reducible refine (HQ1.out _ HWE.out).mono ?_); rintro e w3 ⟨rfl, hE⟩; have HE3 := Lib.hid hE; clear hE) | (go_at_call 33; (with_reducible refine (HQ2.out _ (HWE.out.trans' HE3.out)).mono ?_); rintro e w4 ⟨rfl, hE⟩; have HE4 := Lib.hid (HE3.out.trans' hE); clear hE) | (go_at_call 105; (with_reducible refine (HQ3.out _).mono ?_); rintro e w5 ⟨rfl, hE⟩; have HE5 := Lib.hid (HE4.out.trans' hE); clear hE) | (at_builtin; refine wpList_append_own_at _ rfl (.tmp 29) (.tmp 33) 22 rfl w1.heap.size 43 i0 _ 2 24 Tryz.underlying22 hi hz0 hz1 hz2 rfl (by decide) _ out.length (flat2 (out.map plain)) rfl (owns_ext (owns_ext HO.out HE5.out) (Ext.alloc' _ _)) ⟨w5.heap.size, 0, none⟩ 1 1 [.string s, .int .i64 q] rfl rfl (cell_two_new _ _ _ _) (two_one _ _ rfl rfl) (by have := HOL.out; unfold maxLen; omega) (by have := HOL.out; omega) (by have := HE.out.size; have := HE5.out.size; simp; omega) ?_; intro v' w2 hown hgrow _ _; have R := Lib.hid (plain_push (w := w1) ((HO.out.ext HE5.out).ext (Ext.alloc' _ _)) ((HE.out.trans' HE5.out).trans' (Ext.alloc' _ _)) hown hgrow); clear hown hgrow))
        go_roundw
        case rel =>
          refine ⟨k + 1, out ++ [(s, q)], by omega, by go_num, by have := HOL.out; simp; omega, ⟨?_, R.out.1⟩, R.out.2⟩
          rw [List.take_succ_eq_append_getElem hkr, coalF_append, ← HOUT.out, ← HSS.out, coalF_cons, HF.out, if_neg H0.out]; simp [coalF]
        case measure => simp [intOf]; omega
    · obtain rfl : k = N := by omega
      go_wp2
      go_ret
      have ho := HOUT.out
      rw [List.take_of_length_le (by rw [← HNN.out]; exact Nat.le_refl _)] at ho
      have hj := join_end (f := fun x y => x - y) (by simp) HNM.out
      rw [← ho] at hj
      exact ⟨out, ⟨_, rfl, row_low HO.out HE1.out.size, HE1.out.trans' HE.out⟩, hj⟩

set_option maxRecDepth 100000 in
theorem sSumTaken (A B : Option Addr) (n c m d : Nat) (l l' : List (ByteArray × Int)) (w : World) (hl : l.length = n) (hl' : l'.length = m) (hn : n + m ≤ 1000) (hA : PlainAt w A l) (hB : PlainAt w B l')
    (hs : l.Pairwise fun a b => keyLt a.1 b.1 = true) (hs' : l'.Pairwise fun a b => keyLt a.1 b.1 = true) (hb : ∀ x ∈ l, x.2.natAbs ≤ 1125899906842624) (hb' : ∀ x ∈ l', x.2.natAbs ≤ 1125899906842624) :
    Calls Tryz.prog 53 #[.slice A n c, .slice B m d] w (RetJoin (fun x y => x - y) l l' w) := by
  have H := Lib.hid (jTaken A B n c m d l l' w hl hl' hn hA hB hs hs' hb hb')
  clear hl hl' hn hA hB hs hs' hb hb'
  go_enter Tryz.func53, Tryz.ntmps53
  go_wp2_with (fail)
  go_at_call 104
  refine H.out.mono ?_
  rintro e w1 ⟨r, ⟨v, rfl, ho, hE⟩, hr⟩
  have HR := Lib.hid (And.intro ho (And.intro hE hr))
  clear ho hE hr
  go_wp2
  go_ret
  exact ⟨r, ⟨v, rfl, HR.out.1, HR.out.2.1⟩, HR.out.2.2⟩
end Go.Proofs.YtagfbefgcijegaaGreatDoor

namespace Go.Proofs.YtagfbefgcijegaaGreatDoor
open Go Go.RowKit

set_option maxRecDepth 100000 in
theorem clLess (y z : Int) (w : World) (_hy : y.natAbs ≤ 1125899906842624) (_hz : z.natAbs ≤ 1125899906842624) : Calls Tryz.prog 111 #[.int .i64 y, .int .i64 z] w (RetE (.int .i64 (min y z)) w) := by
  go_enter Tryz.func111, Tryz.ntmps111
  go_wp2
  go_ret
  exact ⟨rfl, Ext.refl _⟩

set_option maxRecDepth 100000 in
set_option maxHeartbeats 2000000 in
theorem jLess (A B : Option Addr) (n c m d : Nat) (l l' : List (ByteArray × Int)) (w : World) (hl : l.length = n) (hl' : l'.length = m) (hn : n + m ≤ 1000) (hA : PlainAt w A l) (hB : PlainAt w B l')
    (hs : l.Pairwise fun a b => keyLt a.1 b.1 = true) (hs' : l'.Pairwise fun a b => keyLt a.1 b.1 = true) (hb : ∀ x ∈ l, x.2.natAbs ≤ 1125899906842624) (hb' : ∀ x ∈ l', x.2.natAbs ≤ 1125899906842624) :
    Calls Tryz.prog 104 #[.slice A n c, .slice B m d, .func (.func 111) #[] #[]] w (RetJoin (fun x y => min x y) l l' w) := by
  obtain ⟨i0, hi, hz0, hz1, hz2⟩ := info_parts infoSum
  have H1 := Lib.hid (sSumDenoms A B n c m d l l' w hl hl' hn hA hB)
  have HL := Lib.hid hl; have HL' := Lib.hid hl'; have HA := Lib.hid hA; have HB := Lib.hid hB; have HS := Lib.hid hs; have HS' := Lib.hid hs'; have HN := Lib.hid hn
  have HAB := Lib.hid (fun s => And.intro (total_abs hs hb s) (total_abs hs' hb' s))
  clear hl hl' hA hB hs hs' hb hb' hn
  go_enter Tryz.func104, Tryz.ntmps104
  go_wp2_with (fail)
  go_at_call 144
  refine H1.out.mono ?_
  rintro e w1 ⟨v, ns, rfl, hown, hnam, hE⟩
  obtain ⟨A1, c1, rfl, hat⟩ := names_at hown
  have HNA := Lib.hid hat; have HNM := Lib.hid hnam; have HE1 := Lib.hid hE
  obtain ⟨N, hN⟩ : ∃ N, N = ns.length := ⟨_, rfl⟩
  have HNL := Lib.hid (show N ≤ 1000 by have := namI_len hnam; rw [List.length_append] at this; have := HL.out; have := HL'.out; have := HN.out; omega)
  rw [← hN]
  have HNN := Lib.hid hN
  clear hown hnam hE hat hN
  have hN5 := HNL.out
  go_wp2
  go_loopw [7, 15] (fun v i wr => ∃ (k : Nat) (out : List (ByteArray × Int)), k ≤ N ∧ i = .int .i64 k ∧ out.length ≤ k ∧ (out = coalF (fun s => (fun x y => min x y) (totalP s l) (totalP s l')) (ns.take k) ∧ PlainOwn wr w1.heap.size 43 v out) ∧ Ext w1 wr) (fun _ i _ => N - (intOf i).toNat)
  case atStart => exact ⟨0, [], Nat.zero_le _, rfl, Nat.le_refl _, ⟨rfl, PlainOwn.nil _ _ _⟩, Ext.refl _⟩
  case round =>
    obtain ⟨k, out, hk, rfl, hol, ⟨hout, hown⟩, hE⟩ := hrel
    have HOL := Lib.hid hol; have HOUT := Lib.hid hout; have HO := Lib.hid hown; have HE := Lib.hid hE
    clear hol hout hown hE
    by_cases hlt : k < N
    · have hkr : k < ns.length := by rw [← HNN.out]; exact hlt
      obtain ⟨s, hss⟩ : ∃ s, s = ns[k] := ⟨_, rfl⟩
      obtain ⟨g, o, hA1, hc⟩ := HNA.out (by intro e; rw [e] at hkr; simp at hkr)
      subst hA1
      have cs0 : wr.cell? ⟨g, o + k, none⟩ = some (.string s) := HE.out.cell' (by rw [hc k hkr, hss])
      have HSS := Lib.hid hss
      clear hss hc
      have b0 : (0 : Int) ≤ (k : Int) := by omega
      obtain ⟨y, hy⟩ : ∃ y, y = totalP s l := ⟨_, rfl⟩
      obtain ⟨z, hz⟩ : ∃ z, z = totalP s l' := ⟨_, rfl⟩
      have HQ1 := Lib.hid (fun (W : World) (e : Ext w W) => sSumOf A n c l s W HL.out (by have := HN.out; omega) (HA.out.ext e) HS.out)
      have HQ2 := Lib.hid (fun (W : World) (e : Ext w W) => sSumOf B m d l' s W HL'.out (by have := HN.out; omega) (HB.out.ext e) HS'.out)
      have HQ3 := Lib.hid (fun (W : World) => clLess y z W (by rw [hy]; exact (HAB.out s).1) (by rw [hz]; exact (HAB.out s).2))
      rw [← hy] at HQ1; rw [← hz] at HQ2
      obtain ⟨q, hq⟩ : ∃ q, q = min y z := ⟨_, rfl⟩
      rw [← hq] at HQ3
      have HF := Lib.hid (show (fun x y => min x y) (totalP s l) (totalP s l') = q by rw [← hy, ← hz, hq])
      have HWE := Lib.hid (HE1.out.trans' HE.out)
      clear hy hz hq
      have hcall : True := trivial
      by_cases h0 : q = 0
      · have H0 := Lib.hid h0
        subst h0
        go_wp2_with (first | (go_at_call 33; (with_reducible refine (HQ1.out _ HWE.out).mono ?_); rintro e w3 ⟨rfl, hE⟩; have HE3 := Lib.hid hE; clear hE) | (go_at_call 33; (with_reducible refine (HQ2.out _ (HWE.out.trans' HE3.out)).mono ?_); rintro e w4 ⟨rfl, hE⟩; have HE4 := Lib.hid (HE3.out.trans' hE); clear hE) | (go_at_call 111; (with_reducible refine (HQ3.out _).mono ?_); rintro e w5 ⟨rfl, hE⟩; have HE5 := Lib.hid (HE4.out.trans' hE); clear hE))
        go_roundw
        case rel =>
          refine ⟨k + 1, out, by omega, by go_num, by have := HOL.out; omega, ⟨?_, HO.out.ext HE5.out⟩, HE.out.trans' HE5.out⟩
          rw [List.take_succ_eq_append_getElem hkr, coalF_append, ← HOUT.out, ← HSS.out, coalF_cons, HF.out]; simp [coalF]
        case measure => simp [intOf]; omega
      · have d1 : (q == 0) = false := by simpa using h0
        have H0 := Lib.hid h0; clear h0
        go_wp2_with (first | (go_at_call 33; (with_reducible refine (HQ1.out _ HWE.out).mono ?_); rintro e w3 ⟨rfl, hE⟩; have HE3 := Lib.hid hE; clear hE) | (go_at_call 33; (with_reducible refine (HQ2.out _ (HWE.out.trans' HE3.out)).mono ?_); rintro e w4 ⟨rfl, hE⟩; have HE4 := Lib.hid (HE3.out.trans' hE); clear hE) | (go_at_call 111; (with_reducible refine (HQ3.out _).mono ?_); rintro e w5 ⟨rfl, hE⟩; have HE5 := Lib.hid (HE4.out.trans' hE); clear hE) | (at_builtin; refine wpList_append_own_at _ rfl (.tmp 29) (.tmp 33) 22 rfl w1.heap.size 43 i0 _ 2 24 Tryz.underlying22 hi hz0 hz1 hz2 rfl (by decide) _ out.length (flat2 (out.map plain)) rfl (owns_ext (owns_ext HO.out HE5.out) (Ext.alloc' _ _)) ⟨w5.heap.size, 0, none⟩ 1 1 [.string s, .int .i64 q] rfl rfl (cell_two_new _ _ _ _) (two_one _ _ rfl rfl) (by have := HOL.out; unfold maxLen; omega) (by have := HOL.out; omega) (by have := HE.out.size; have := HE5.out.size; simp; omega) ?_; intro v' w2 hown hgrow _ _; have R := Lib.hid (plain_push (w := w1) ((HO.out.ext HE5.out).ext (Ext.alloc' _ _)) ((HE.out.trans' HE5.out).trans' (Ext.alloc' _ _)) hown hgrow); clear hown hgrow))
        go_roundw
        case rel =>
          refine ⟨k + 1, out ++ [(s, q)], by omega, by go_num, by have := HOL.out; simp; omega, ⟨?_, R.out.1⟩, R.out.2⟩
          rw [List.take_succ_eq_append_getElem hkr, coalF_append, ← HOUT.out, ← HSS.out, coalF_cons, HF.out, if_neg H0.out]; simp [coalF]
        case measure => simp [intOf]; omega
    · obtain rfl : k = N := by omega
      go_wp2
      go_ret
      have ho := HOUT.out
      rw [List.take_of_length_le (by rw [← HNN.out]; exact Nat.le_refl _)] at ho
      have hj := join_end (f := fun x y => min x y) (by simp) HNM.out
      rw [← ho] at hj
      exact ⟨out, ⟨_, rfl, row_low HO.out HE1.out.size, HE1.out.trans' HE.out⟩, hj⟩

set_option maxRecDepth 100000 in
theorem sSumLess (A B : Option Addr) (n c m d : Nat) (l l' : List (ByteArray × Int)) (w : World) (hl : l.length = n) (hl' : l'.length = m) (hn : n + m ≤ 1000) (hA : PlainAt w A l) (hB : PlainAt w B l')
    (hs : l.Pairwise fun a b => keyLt a.1 b.1 = true) (hs' : l'.Pairwise fun a b => keyLt a.1 b.1 = true) (hb : ∀ x ∈ l, x.2.natAbs ≤ 1125899906842624) (hb' : ∀ x ∈ l', x.2.natAbs ≤ 1125899906842624) :
    Calls Tryz.prog 58 #[.slice A n c, .slice B m d] w (RetJoin (fun x y => min x y) l l' w) := by
  have H := Lib.hid (jLess A B n c m d l l' w hl hl' hn hA hB hs hs' hb hb')
  clear hl hl' hn hA hB hs hs' hb hb'
  go_enter Tryz.func58, Tryz.ntmps58
  go_wp2_with (fail)
  go_at_call 104
  refine H.out.mono ?_
  rintro e w1 ⟨r, ⟨v, rfl, ho, hE⟩, hr⟩
  have HR := Lib.hid (And.intro ho (And.intro hE hr))
  clear ho hE hr
  go_wp2
  go_ret
  exact ⟨r, ⟨v, rfl, HR.out.1, HR.out.2.1⟩, HR.out.2.2⟩

set_option maxRecDepth 100000 in
theorem clMore (y z : Int) (w : World) (_hy : y.natAbs ≤ 1125899906842624) (_hz : z.natAbs ≤ 1125899906842624) : Calls Tryz.prog 112 #[.int .i64 y, .int .i64 z] w (RetE (.int .i64 (max y z)) w) := by
  go_enter Tryz.func112, Tryz.ntmps112
  go_wp2
  go_ret
  exact ⟨rfl, Ext.refl _⟩

set_option maxRecDepth 100000 in
set_option maxHeartbeats 2000000 in
theorem jMore (A B : Option Addr) (n c m d : Nat) (l l' : List (ByteArray × Int)) (w : World) (hl : l.length = n) (hl' : l'.length = m) (hn : n + m ≤ 1000) (hA : PlainAt w A l) (hB : PlainAt w B l')
    (hs : l.Pairwise fun a b => keyLt a.1 b.1 = true) (hs' : l'.Pairwise fun a b => keyLt a.1 b.1 = true) (hb : ∀ x ∈ l, x.2.natAbs ≤ 1125899906842624) (hb' : ∀ x ∈ l', x.2.natAbs ≤ 1125899906842624) :
    Calls Tryz.prog 104 #[.slice A n c, .slice B m d, .func (.func 112) #[] #[]] w (RetJoin (fun x y => max x y) l l' w) := by
  obtain ⟨i0, hi, hz0, hz1, hz2⟩ := info_parts infoSum
  have H1 := Lib.hid (sSumDenoms A B n c m d l l' w hl hl' hn hA hB)
  have HL := Lib.hid hl; have HL' := Lib.hid hl'; have HA := Lib.hid hA; have HB := Lib.hid hB; have HS := Lib.hid hs; have HS' := Lib.hid hs'; have HN := Lib.hid hn
  have HAB := Lib.hid (fun s => And.intro (total_abs hs hb s) (total_abs hs' hb' s))
  clear hl hl' hA hB hs hs' hb hb' hn
  go_enter Tryz.func104, Tryz.ntmps104
  go_wp2_with (fail)
  go_at_call 144
  refine H1.out.mono ?_
  rintro e w1 ⟨v, ns, rfl, hown, hnam, hE⟩
  obtain ⟨A1, c1, rfl, hat⟩ := names_at hown
  have HNA := Lib.hid hat; have HNM := Lib.hid hnam; have HE1 := Lib.hid hE
  obtain ⟨N, hN⟩ : ∃ N, N = ns.length := ⟨_, rfl⟩
  have HNL := Lib.hid (show N ≤ 1000 by have := namI_len hnam; rw [List.length_append] at this; have := HL.out; have := HL'.out; have := HN.out; omega)
  rw [← hN]
  have HNN := Lib.hid hN
  clear hown hnam hE hat hN
  have hN5 := HNL.out
  go_wp2
  go_loopw [7, 15] (fun v i wr => ∃ (k : Nat) (out : List (ByteArray × Int)), k ≤ N ∧ i = .int .i64 k ∧ out.length ≤ k ∧ (out = coalF (fun s => (fun x y => max x y) (totalP s l) (totalP s l')) (ns.take k) ∧ PlainOwn wr w1.heap.size 43 v out) ∧ Ext w1 wr) (fun _ i _ => N - (intOf i).toNat)
  case atStart => exact ⟨0, [], Nat.zero_le _, rfl, Nat.le_refl _, ⟨rfl, PlainOwn.nil _ _ _⟩, Ext.refl _⟩
  case round =>
    obtain ⟨k, out, hk, rfl, hol, ⟨hout, hown⟩, hE⟩ := hrel
    have HOL := Lib.hid hol; have HOUT := Lib.hid hout; have HO := Lib.hid hown; have HE := Lib.hid hE
    clear hol hout hown hE
    by_cases hlt : k < N
    · have hkr : k < ns.length := by rw [← HNN.out]; exact hlt
      obtain ⟨s, hss⟩ : ∃ s, s = ns[k] := ⟨_, rfl⟩
      obtain ⟨g, o, hA1, hc⟩ := HNA.out (by intro e; rw [e] at hkr; simp at hkr)
      subst hA1
      have cs0 : wr.cell? ⟨g, o + k, none⟩ = some (.string s) := HE.out.cell' (by rw [hc k hkr, hss])
      have HSS := Lib.hid hss
      clear hss hc
      have b0 : (0 : Int) ≤ (k : Int) := by omega
      obtain ⟨y, hy⟩ : ∃ y, y = totalP s l := ⟨_, rfl⟩
      obtain ⟨z, hz⟩ : ∃ z, z = totalP s l' := ⟨_, rfl⟩
      have HQ1 := Lib.hid (fun (W : World) (e : Ext w W) => sSumOf A n c l s W HL.out (by have := HN.out; omega) (HA.out.ext e) HS.out)
      have HQ2 := Lib.hid (fun (W : World) (e : Ext w W) => sSumOf B m d l' s W HL'.out (by have := HN.out; omega) (HB.out.ext e) HS'.out)
      have HQ3 := Lib.hid (fun (W : World) => clMore y z W (by rw [hy]; exact (HAB.out s).1) (by rw [hz]; exact (HAB.out s).2))
      rw [← hy] at HQ1; rw [← hz] at HQ2
      obtain ⟨q, hq⟩ : ∃ q, q = max y z := ⟨_, rfl⟩
      rw [← hq] at HQ3
      have HF := Lib.hid (show (fun x y => max x y) (totalP s l) (totalP s l') = q by rw [← hy, ← hz, hq])
      have HWE := Lib.hid (HE1.out.trans' HE.out)
      clear hy hz hq
      have hcall : True := trivial
      by_cases h0 : q = 0
      · have H0 := Lib.hid h0
        subst h0
        go_wp2_with (first | (go_at_call 33; (with_reducible refine (HQ1.out _ HWE.out).mono ?_); rintro e w3 ⟨rfl, hE⟩; have HE3 := Lib.hid hE; clear hE) | (go_at_call 33; (with_reducible refine (HQ2.out _ (HWE.out.trans' HE3.out)).mono ?_); rintro e w4 ⟨rfl, hE⟩; have HE4 := Lib.hid (HE3.out.trans' hE); clear hE) | (go_at_call 112; (with_reducible refine (HQ3.out _).mono ?_); rintro e w5 ⟨rfl, hE⟩; have HE5 := Lib.hid (HE4.out.trans' hE); clear hE))
        go_roundw
        case rel =>
          refine ⟨k + 1, out, by omega, by go_num, by have := HOL.out; omega, ⟨?_, HO.out.ext HE5.out⟩, HE.out.trans' HE5.out⟩
          rw [List.take_succ_eq_append_getElem hkr, coalF_append, ← HOUT.out, ← HSS.out, coalF_cons, HF.out]; simp [coalF]
        case measure => simp [intOf]; omega
      · have d1 : (q == 0) = false := by simpa using h0
        have H0 := Lib.hid h0; clear h0
        go_wp2_with (first | (go_at_call 33; (with_reducible refine (HQ1.out _ HWE.out).mono ?_); rintro e w3 ⟨rfl, hE⟩; have HE3 := Lib.hid hE; clear hE) | (go_at_call 33; (with_reducible refine (HQ2.out _ (HWE.out.trans' HE3.out)).mono ?_); rintro e w4 ⟨rfl, hE⟩; have HE4 := Lib.hid (HE3.out.trans' hE); clear hE) | (go_at_call 112; (with_reducible refine (HQ3.out _).mono ?_); rintro e w5 ⟨rfl, hE⟩; have HE5 := Lib.hid (HE4.out.trans' hE); clear hE) | (at_builtin; refine wpList_append_own_at _ rfl (.tmp 29) (.tmp 33) 22 rfl w1.heap.size 43 i0 _ 2 24 Tryz.underlying22 hi hz0 hz1 hz2 rfl (by decide) _ out.length (flat2 (out.map plain)) rfl (owns_ext (owns_ext HO.out HE5.out) (Ext.alloc' _ _)) ⟨w5.heap.size, 0, none⟩ 1 1 [.string s, .int .i64 q] rfl rfl (cell_two_new _ _ _ _) (two_one _ _ rfl rfl) (by have := HOL.out; unfold maxLen; omega) (by have := HOL.out; omega) (by have := HE.out.size; have := HE5.out.size; simp; omega) ?_; intro v' w2 hown hgrow _ _; have R := Lib.hid (plain_push (w := w1) ((HO.out.ext HE5.out).ext (Ext.alloc' _ _)) ((HE.out.trans' HE5.out).trans' (Ext.alloc' _ _)) hown hgrow); clear hown hgrow))
        go_roundw
        case rel =>
          refine ⟨k + 1, out ++ [(s, q)], by omega, by go_num, by have := HOL.out; simp; omega, ⟨?_, R.out.1⟩, R.out.2⟩
          rw [List.take_succ_eq_append_getElem hkr, coalF_append, ← HOUT.out, ← HSS.out, coalF_cons, HF.out, if_neg H0.out]; simp [coalF]
        case measure => simp [intOf]; omega
    · obtain rfl : k = N := by omega
      go_wp2
      go_ret
      have ho := HOUT.out
      rw [List.take_of_length_le (by rw [← HNN.out]; exact Nat.le_refl _)] at ho
      have hj := join_end (f := fun x y => max x y) (by simp) HNM.out
      rw [← ho] at hj
      exact ⟨out, ⟨_, rfl, row_low HO.out HE1.out.size, HE1.out.trans' HE.out⟩, hj⟩

set_option maxRecDepth 100000 in
theorem sSumMore (A B : Option Addr) (n c m d : Nat) (l l' : List (ByteArray × Int)) (w : World) (hl : l.length = n) (hl' : l'.length = m) (hn : n + m ≤ 1000) (hA : PlainAt w A l) (hB : PlainAt w B l')
    (hs : l.Pairwise fun a b => keyLt a.1 b.1 = true) (hs' : l'.Pairwise fun a b => keyLt a.1 b.1 = true) (hb : ∀ x ∈ l, x.2.natAbs ≤ 1125899906842624) (hb' : ∀ x ∈ l', x.2.natAbs ≤ 1125899906842624) :
    Calls Tryz.prog 59 #[.slice A n c, .slice B m d] w (RetJoin (fun x y => max x y) l l' w) := by
  have H := Lib.hid (jMore A B n c m d l l' w hl hl' hn hA hB hs hs' hb hb')
  clear hl hl' hn hA hB hs hs' hb hb'
  go_enter Tryz.func59, Tryz.ntmps59
  go_wp2_with (fail)
  go_at_call 104
  refine H.out.mono ?_
  rintro e w1 ⟨r, ⟨v, rfl, ho, hE⟩, hr⟩
  have HR := Lib.hid (And.intro ho (And.intro hE hr))
  clear ho hE hr
  go_wp2
  go_ret
  exact ⟨r, ⟨v, rfl, HR.out.1, HR.out.2.1⟩, HR.out.2.2⟩
end Go.Proofs.YtagfbefgcijegaaGreatDoor
