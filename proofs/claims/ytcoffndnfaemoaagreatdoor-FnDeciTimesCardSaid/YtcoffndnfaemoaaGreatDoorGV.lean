/-
  A map of names that were seen (map[string]bool): made, asked, stored into.
  The contracts of DecCoin.Validate and DecCoins.Validate: the first thing that is wrong; impl.DecOneErr and DecErr.
  The contract of DecCoins.Validate for lists of any length; impl.DecOneErr and DecErr.
  append of a list of records of any size onto a row of the call's own; the laws' deciOwn.
  What DecCoins tell of themselves: IsValid, IsZero, Empty, IsAllPositive, IsAnyNegative; impl.DecAbout.
-/
import Derived.Test.YtcoffndnfaemoaaGreatDoorGA
import Derived.Test.YtcoffndnfaemoaaGreatDoorChecked
import Derived.Maps.RangeWalk
import Derived.Test.YtcoffndnfaemoaaGreatDoorGQ
import Derived.Test.YtcoffndnfaemoaaGreatDoorGC
import Derived.Test.YtcoffndnfaemoaaGreatDoorGE
import Derived.Deep.Cut
namespace Go.Proofs.YtcoffndnfaemoaaGreatDoor
open Go Go.RowKit Go.Maps

/-- A key of a map of names. -/
def sk (s : ByteArray) : Lit := .string s.data.toList
theorem sk_inj {s t : ByteArray} (h : sk s = sk t) : s = t := by
  unfold sk at h; injection h with h
  exact ByteArray.ext (Array.ext' h)
theorem keyOf_sk {P : Program} {k : TypeId} (hk : P.underlying k = some .string) {s : ByteArray} (hs : s.size ≤ maxLen) : keyOf P k (.string s) = some (sk s) := by
  simp [keyOf, hk, mapKey, hs, sk]
def asV (v : Value) : Option (DataW Value × List MemPlace) := some (.held v, [])
theorem seenK : Keyed Tryz.prog 9 := string_keyed Tryz.underlying9
/-- Is a name among these? -/
def seenB (S : List ByteArray) (s : ByteArray) : Bool := S.any fun t => decide (t = s)
theorem seenB_iff (S : List ByteArray) (s : ByteArray) : seenB S s = true ↔ s ∈ S := by
  unfold seenB
  rw [List.any_eq_true]
  exact ⟨fun ⟨t, h, e⟩ => by have := of_decide_eq_true e; subst this; exact h, fun h => ⟨s, h, decide_eq_true rfl⟩⟩
/-- The names seen so far, in the map of block M. -/
def Seen (W : World) (M : Nat) (S : List ByteArray) : Prop :=
  ∃ D : DataW Value, W.ownsMap Tryz.prog 9 asV M S.length D ∧ (∀ s, has D (sk s) = true ↔ s ∈ S) ∧ ∀ s, s ∈ S → ∀ z, D.atKey (sk s) z = .held (.bool true)
theorem seenOwn {w w' : World} {M n : Nat} {D : DataW Value} (h : w.ownsMap Tryz.prog 9 asV M n D) (e : w'.heap[M]? = w.heap[M]?) : w'.ownsMap Tryz.prog 9 asV M n D := by
  obtain ⟨es, clock, hb, r⟩ := h
  exact ⟨es, clock, e.trans hb, r⟩
theorem Seen.lt {W : World} {M : Nat} {S : List ByteArray} (h : Seen W M S) : M < W.heap.size := by
  obtain ⟨D, h, _⟩ := h; exact h.lt
theorem Seen.ext {w w' : World} {M : Nat} {S : List ByteArray} (h : Seen w M S) (e : Ext w w') : Seen w' M S := by
  have hl := h.lt
  obtain ⟨D, hM, r⟩ := h
  exact ⟨D, seenOwn hM (e.block M hl), r⟩
theorem seen_made (W : World) : Seen (W.alloc (.map #[] 0)) W.heap.size [] :=
  ⟨.map [], World.ownsMap_made _ _ _ _, fun s => by simp [has], fun s h => by cases h⟩
theorem zeroBool (w : World) : (zeroValue 4).run Tryz.prog w = .ok (.bool false) w := by kernel_rfl
end Go.Proofs.YtcoffndnfaemoaaGreatDoor

namespace Go.Proofs.YtcoffndnfaemoaaGreatDoor
open Go Go.RowKit

/-- "denomination is not sorted", "duplicate denomination", "coin amount is not positive", "decimal coin amount cannot be negative". -/
abbrev dNotSorted : ByteArray := ⟨#[100, 101, 110, 111, 109, 105, 110, 97, 116, 105, 111, 110, 32, 105, 115, 32, 110, 111, 116, 32, 115, 111, 114, 116, 101, 100]⟩
abbrev dDupl : ByteArray := ⟨#[100, 117, 112, 108, 105, 99, 97, 116, 101, 32, 100, 101, 110, 111, 109, 105, 110, 97, 116, 105, 111, 110]⟩
abbrev dNotPos : ByteArray := ⟨#[99, 111, 105, 110, 32, 97, 109, 111, 117, 110, 116, 32, 105, 115, 32, 110, 111, 116, 32, 112, 111, 115, 105, 116, 105, 118, 101]⟩
abbrev dBelow : ByteArray := ⟨#[100, 101, 99, 105, 109, 97, 108, 32, 99, 111, 105, 110, 32, 97, 109, 111, 117, 110, 116, 32, 99, 97, 110, 110, 111, 116, 32, 98, 101, 32, 110, 101, 103, 97, 116, 105, 118, 101]⟩
/-- What is wrong with one decimal coin. -/
def dOneErr (x : ByteArray × Int) : Option ByteArray := if denomB x.1 = false then some invDenom else if x.2 < 0 then some dBelow else none
/-- Is a name ahead of the last of these? -/
def behind (S : List ByteArray) (s : ByteArray) : Bool := match S.getLast? with | some q => keyLt s q | none => false
theorem behind_some {S : List ByteArray} {s q : ByteArray} (h : S.getLast? = some q) : behind S s = keyLt s q := by unfold behind; rw [h]
/-- What is wrong with a coin behind those of these names. -/
def dErrOne (S : List ByteArray) (x : ByteArray × Int) : Option ByteArray :=
  if seenB S x.1 = true then some dDupl else if denomB x.1 = false then some invDenom else if behind S x.1 = true then some dNotSorted else if x.2 ≤ 0 then some dNotPos else none
/-- The first thing that is wrong. -/
def dErr (S : List ByteArray) : List (ByteArray × Int) → Option ByteArray
  | [] => none
  | x :: r => match dErrOne S x with | some t => some t | none => dErr (S ++ [x.1]) r
theorem dErr_some {S : List ByteArray} {x : ByteArray × Int} {r : List (ByteArray × Int)} {t : ByteArray} (h : dErrOne S x = some t) : dErr S (x :: r) = some t := by unfold dErr; rw [h]
theorem dErr_none {S : List ByteArray} {x : ByteArray × Int} {r : List (ByteArray × Int)} (h : dErrOne S x = none) : dErr S (x :: r) = dErr (S ++ [x.1]) r := by conv => lhs; unfold dErr; rw [h]
theorem dsgn_pos (z : Int) : (sgn z == 1) = decide (0 < z) := by
  unfold sgn
  by_cases h1 : z < 0
  · rw [if_pos h1]; have : ¬ 0 < z := by omega
    simp [this]
  · rw [if_neg h1]
    by_cases h2 : 0 < z
    · rw [if_pos h2]; simp [h2]
    · rw [if_neg h2]; simp [h2]
theorem dsgn_neg (z : Int) : (sgn z == -1) = decide (z < 0) := by
  unfold sgn
  by_cases h1 : z < 0
  · rw [if_pos h1]; simp [h1]
  · rw [if_neg h1]
    by_cases h2 : 0 < z
    · rw [if_pos h2]; simp [h1]
    · rw [if_neg h2]; simp [h1]
theorem dcells_2 {W : World} {g : Nat} {T : TypeId} {u v : Value} (h : Blk W g T [u, v]) : W.cell? ⟨g, 0, none⟩ = some u ∧ W.cell? ⟨g, 1, none⟩ = some v ∧ g < W.heap.size :=
  ⟨(h.cell 0).trans rfl, (h.cell 1).trans rfl, h.lt⟩
/-- No error, or this one. -/
def RetErrD (o : Option ByteArray) (w : World) (e : Ending) (w' : World) : Prop :=
  match o with
  | none => e = .returned .nilIface ∧ Ext w w'
  | some t => RetErr t w e w'
theorem dValidBad {s : ByteArray} (hs : s.size ≤ 9223372036854775807) (h : denomB s = false) (w : World) : Calls Tryz.prog 66 #[.string s] w (RetErr invDenom w) :=
  (tValid s w hs).mono (by rw [h]; rintro e w' (⟨h, _⟩ | ⟨_, h⟩); cases h; exact h)
theorem dValidGood {s : ByteArray} (hs : s.size ≤ 9223372036854775807) (h : denomB s = true) (w : World) : Calls Tryz.prog 66 #[.string s] w (fun e w' => e = .returned .nilIface ∧ w' = w) :=
  (tValid s w hs).mono (by rw [h]; rintro e w' (⟨_, h⟩ | ⟨h, _⟩); exact h; cases h)

set_option maxRecDepth 100000 in
set_option maxHeartbeats 1000000 in
theorem tdValidate (s : ByteArray) (b : Nat) (z : Int) (w : World) (h : BigK w b z) (hsz : s.size ≤ 9223372036854775807) :
    Calls Tryz.prog 147 #[dcV s b] w (RetErrD (dOneErr (s, z)) w) := by
  have K0 := Lib.hid (blk_new0 w 118 [.string s, .pointer (some ⟨b, 0, none⟩)])
  have HP := Lib.hid (fun (W : World) (e : Ext w W) => tdIsNegative s b z W (h.ext e))
  rw [dsgn_neg] at HP
  clear h
  cases hd : denomB s
  · have HV := Lib.hid (dValidBad hsz hd)
    have F := Lib.hid (show dOneErr (s, z) = some invDenom by unfold dOneErr; rw [if_pos hd])
    clear hd
    go_enter Tryz.func147, Tryz.ntmps147
    go_wp2_with (first | (go_at_call 66; refine (HV.out _).mono ?_; rintro e w1 ⟨eb, rfl, hB, hE⟩; have HEB := Lib.hid hB; have HE1 := Lib.hid hE; clear hB hE))
    go_ret
    rw [F.out]; exact ⟨eb, rfl, HEB.out, (ext1 _ _).trans' HE1.out⟩
  · have HV := Lib.hid (dValidGood hsz hd)
    obtain ⟨r, hr⟩ : ∃ r, r = decide (z < 0) := ⟨_, rfl⟩
    rw [← hr] at HP
    have HR := Lib.hid hr; clear hr
    cases r
    · have F := Lib.hid (show dOneErr (s, z) = none by unfold dOneErr; rw [if_neg (by rw [hd]; simp)]; exact if_neg (of_decide_eq_false HR.out.symm))
      clear hd
      go_enter Tryz.func147, Tryz.ntmps147
      go_wp2_with (first | (go_at_call 66; refine (HV.out _).mono ?_; rintro e w1 ⟨rfl, hw⟩; subst hw) | (go_at_call 192; refine (HP.out _ (ext1 _ _)).mono ?_; rintro e w2 ⟨rfl, hE⟩; have HE2 := Lib.hid ((ext1 _ _).trans' hE); clear hE))
      go_ret
      rw [F.out]; exact ⟨rfl, HE2.out⟩
    · have F := Lib.hid (show dOneErr (s, z) = some dBelow by unfold dOneErr; rw [if_neg (by rw [hd]; simp)]; exact if_pos (of_decide_eq_true HR.out.symm))
      clear hd
      go_enter Tryz.func147, Tryz.ntmps147
      go_wp2_with (first | (go_at_call 66; refine (HV.out _).mono ?_; rintro e w1 ⟨rfl, hw⟩; subst hw) | (go_at_call 192; refine (HP.out _ (ext1 _ _)).mono ?_; rintro e w2 ⟨rfl, hE⟩; have HE2 := Lib.hid ((ext1 _ _).trans' hE); clear hE) | (go_at_call 112; refine (eNew dBelow _).mono ?_; rintro e w3 ⟨eb, rfl, hB, hE⟩; have HEB := Lib.hid hB; have HE3 := Lib.hid hE; clear hB hE))
      go_ret
      rw [F.out]; exact ⟨eb, rfl, HEB.out, HE2.out.trans' HE3.out⟩

end Go.Proofs.YtcoffndnfaemoaaGreatDoor

namespace Go.Proofs.YtcoffndnfaemoaaGreatDoor
open Go Go.RowKit

theorem down_cap' {w : World} {base n k : Nat} {E : TypeId} {v : Value} {xs : List Value} (h : w.ownsRow base E k v n xs) : ∃ A c, v = .slice A n c ∧ n ≤ c := by
  rcases h.2 with ⟨rfl, rfl⟩ | ⟨g, cap, _, rfl, _, _, hn, _⟩
  · exact ⟨_, _, rfl, Nat.le_refl _⟩
  · exact ⟨_, _, rfl, hn⟩
theorem own_max {w : World} {base n m k c : Nat} {E : TypeId} {A : Option Addr} {xs : List Value} (h : w.ownsRow base E k (.slice A n c) m xs) : c ≤ 9223372036854775807 := by
  rcases h.2 with ⟨hv, _⟩ | ⟨g, cap, _, hv, _, _, hn, hm, _⟩
  · injection hv with _ _ h3; subst h3; omega
  · injection hv with _ _ h3; subst h3; unfold maxLen at hm; omega
theorem dErrOne_dup {S : List ByteArray} {s : ByteArray} {z : Int} (h : seenB S s = true) : dErrOne S (s, z) = some dDupl := by unfold dErrOne; rw [if_pos h]
theorem dErrOne_inv {S : List ByteArray} {s : ByteArray} {z : Int} (h : seenB S s = false) (h1 : denomB s = false) : dErrOne S (s, z) = some invDenom := by unfold dErrOne; rw [if_neg (by rw [h]; simp), if_pos h1]
theorem dErrOne_ord {S : List ByteArray} {s q : ByteArray} {z : Int} (h : seenB S s = false) (h1 : denomB s = true) (hq : S.getLast? = some q) (h2 : keyLt s q = true) : dErrOne S (s, z) = some dNotSorted := by
  unfold dErrOne; rw [if_neg (by rw [h]; simp), if_neg (by rw [h1]; simp), if_pos (by rw [behind_some hq]; exact h2)]
theorem dErrOne_pos {S : List ByteArray} {s q : ByteArray} {z : Int} (h : seenB S s = false) (h1 : denomB s = true) (hq : S.getLast? = some q) (h2 : keyLt s q = false) : dErrOne S (s, z) = if z ≤ 0 then some dNotPos else none := by
  unfold dErrOne; rw [if_neg (by rw [h]; simp), if_neg (by rw [h1]; simp), if_neg (by rw [behind_some hq, h2]; simp)]

/-- The words of an error. -/
def errText (o : Option ByteArray) : ByteArray := o.getD ⟨#[]⟩
end Go.Proofs.YtcoffndnfaemoaaGreatDoor

namespace Go.Proofs.YtcoffndnfaemoaaGreatDoor
open Go Go.RowKit

theorem rows_cap {w : World} {base n k : Nat} {E : TypeId} {v : Value} {xs : List Value} (h : w.ownsRow base E k v n xs) : ∃ A c, v = .slice A n c ∧ n ≤ c := by
  rcases h.2 with ⟨rfl, rfl⟩ | ⟨g, cap, _, rfl, _, _, hn, _⟩
  · exact ⟨_, _, rfl, Nat.le_refl _⟩
  · exact ⟨_, _, rfl, hn⟩
theorem rows_append_none {P : Program} (w : World) (t ty e : TypeId) (i : TypeInfo) (h1 : P.underlying t = some (.slice e)) (h2 : P.info? e = some i) (a x : Option Addr) (n cap c : Nat) (h : n ≤ cap) :
    (Builtin.append_ #[t, t] ty #[.slice a n cap, .slice x 0 c]).run P w = .ok (.slice a n cap) w := by
  cases a <;> cases x <;> simp [Builtin.append_, run_underlying h1, Go.sizeOf, typeInfo, h2, Result.andThen, Builtin.lenOf, Builtin.firstCells, h, storeCells, loadCells, loadCellsFrom]
theorem wpList_append_rows {P : Program} {w : World} {ops : Array Oper} {rest : List Oper} {o : Oper} {a : Act} {Q : Exit → Act → World → Prop} (hw : Region.wanted o (yielded ops a.tmps) = true) (s x : Operand) (t E : TypeId)
    (ho : o.op = .call { callee := .builtin .append, args := #[s, x], argTypes := #[t, t] }) (base : Nat) (i : TypeInfo) (z : Value) (size bytes : Nat) (ht : P.underlying t = some (.slice E)) (hi : P.info? E = some i) (hz : i.zero = some z)
    (hsize : i.size = size) (hby : i.bytes = bytes) (hzs : z.cells.size = size) (h0s : 0 < size) (v : Value) (n : Nat) (xs : List Value) (hs : a.eval s = v) (hown : w.ownsRow base E size v n xs)
    (B : Option Addr) (m c : Nat) (news : List Value) (hx : a.eval x = .slice B m c) (hl : news.length = m * size) (hnews : m ≠ 0 → ∃ g of, B = some ⟨g, of, none⟩ ∧ ∀ j u, news[j]? = some u → w.cell? ⟨g, of + j, none⟩ = some u) (h1 : ∀ u ∈ news, u.oneCell' = true)
    (hle : n + m ≤ maxLen) (hb : (n + m) * bytes ≤ 140737488355328) (hbase : base ≤ w.heap.size)
    (h : ∀ v' w', w'.ownsRow base E size v' (n + m) (xs ++ news) → (∀ w0, Ext w0 w → w0.heap.size ≤ base → Ext w0 w') → wpList P ops Q rest (a.put o.dst v') w') :
    wpList P ops Q (o :: rest) a w := by
  by_cases h0 : m = 0
  · subst h0
    have : news = [] := List.eq_nil_of_length_eq_zero (by simpa using hl)
    subst this
    obtain ⟨A, cap, rfl, hcap⟩ := rows_cap hown
    refine wpList_step fun K hK => ?_
    rw [if_pos hw]
    have hr := rows_append_none (P := P) w t o.type E i ht hi A B n cap c hcap
    unfold Oper.wp execOp
    simp only [ho, resolve, invoke, builtin, Sem.run_bind, Sem.run_pure, Result.andThen_ok, List.map_toArray, List.map_cons, List.map_nil, hs, hx, hr]
    exact hK _ _ (h _ w (by simpa using hown) fun _ e0 _ => e0)
  · obtain ⟨g, of, rfl, hc⟩ := hnews h0
    have hnews : ∀ j u, news[j]? = some u → w.cell? ((⟨g, of, none⟩ : Addr).add j) = some u := fun j u hu => by
      have hadd : (⟨g, of, none⟩ : Addr).add j = ⟨g, of + j, none⟩ := by unfold Addr.add; split <;> simp_all
      rw [hadd]; exact hc j u hu
    refine wpList_step fun K hK => ?_
    rw [if_pos hw]
    obtain ⟨v', w', hr, h2, h3, _, _⟩ := run_append_own_at (P := P) w base t o.type E i z size bytes ht hi hz hsize hby hzs h0s v n xs hown ⟨g, of, none⟩ m c news hl hnews h1 hle hb hbase
    unfold Oper.wp execOp
    simp only [ho, resolve, invoke, builtin, Sem.run_bind, Sem.run_pure, Result.andThen_ok, List.map_toArray, List.map_cons, List.map_nil, hs, hx, hr]
    exact hK _ _ (h v' w' h2 (fun _ e0 hb => Below.grown e0 h3 e0.size (fun g hv => Nat.le_trans hb (hown.lt g hv).1)))
theorem flat3_all {Q : Nat → Value → Prop} (ps : List (Value × Value × Value)) (h : ∀ j (hj : j < ps.length), Q (j * 3) ps[j].1 ∧ Q (j * 3 + 1) ps[j].2.1 ∧ Q (j * 3 + 2) ps[j].2.2) : ∀ i u, (flat3 ps)[i]? = some u → Q i u := by
  intro i u hu
  have hi : i < (flat3 ps).length := (List.getElem?_eq_some_iff.1 hu).1
  rw [flat3_length] at hi
  have hj : i / 3 < ps.length := by omega
  obtain ⟨h1, h2, h3⟩ := flat3_get ps (i / 3) hj
  obtain ⟨q1, q2, q3⟩ := h (i / 3) hj
  rcases (by omega : i / 3 * 3 = i ∨ i / 3 * 3 + 1 = i ∨ i / 3 * 3 + 2 = i) with e | e | e
  · rw [e] at h1 q1
    rw [h1] at hu; injection hu with hu; rw [← hu]; exact q1
  · rw [e] at h2 q2
    rw [h2] at hu; injection hu with hu; rw [← hu]; exact q2
  · rw [e] at h3 q3
    rw [h3] at hu; injection hu with hu; rw [← hu]; exact q3
theorem dplain_one' (l : List DP) : ∀ u ∈ flat3 (l.map dplain), u.oneCell' = true := by
  intro u hu
  obtain ⟨p, hp, hu⟩ := List.mem_flatMap.1 hu
  obtain ⟨x, _, rfl⟩ := List.mem_map.1 hp
  simp [dplain] at hu
  rcases hu with rfl | rfl | rfl <;> rfl
/-- Decimal coins of plain data handed back. -/
def RetDPlain (l : List DP) (w : World) (e : Ending) (w' : World) : Prop := ∃ v, e = .returned v ∧ DPlainOwn w' w.heap.size v l ∧ Ext w w'
theorem dplain_slice {w : World} {base n : Nat} {v : Value} {l : List DP} (h : DPlainOwn w base v l) (hl : l.length = n) : ∃ A c, v = .slice A n c ∧ n ≤ c ∧ DPlainAt w A l := by
  subst hl
  obtain ⟨A, c, rfl, hc⟩ := rows_cap h
  exact ⟨A, c, rfl, hc, recAt3_of_owns (ps := l.map dplain) (by simp) h⟩

set_option maxRecDepth 100000 in
theorem lDeciOwn (A : Option Addr) (n c : Nat) (l : List DP) (w : World) (hl : l.length = n) (hn : n ≤ 100000) (h : DPlainAt w A l) :
    Calls Tryz.prog 16 #[.slice A n c] w (RetDPlain l w) := by
  obtain ⟨i0, hi, hz0, hz1, hz2⟩ := info_parts infoDPlan
  have HL := Lib.hid hl; have HP := Lib.hid h
  clear hl h
  go_enter Tryz.func16, Tryz.ntmps16
  go_wp2_with (first | (at_builtin; refine wpList_append_rows (by rfl) _ _ 22 48 rfl w.heap.size i0 _ 3 32 Tryz.underlying22 hi hz0 hz1 hz2 rfl (by decide) _ 0 [] rfl (World.ownsRow_nil _ _ _ _) A n c (flat3 (l.map dplain)) rfl (by rw [flat3_length, List.length_map, HL.out]) (fun h0 => ?_) (dplain_one' l) (by unfold maxLen; omega) (by omega) (Nat.le_refl _) ?_))
  · obtain ⟨g, o, hA, hc⟩ := HP.out (by intro e; have := congrArg List.length e; simp [HL.out] at this; exact h0 this)
    exact ⟨g, o, hA, flat3_all (Q := fun i u => w.cell? ⟨g, o + i, none⟩ = some u) _ hc⟩
  · intro v' w' hown hext
    have HO := Lib.hid hown; have HE := Lib.hid (hext w (Ext.refl _) (Nat.le_refl _))
    clear hown hext
    go_wp2
    go_ret
    exact ⟨_, rfl, by have := HO.out; rw [← HL.out] at this; exact this, HE.out⟩
end Go.Proofs.YtcoffndnfaemoaaGreatDoor

namespace Go.Proofs.YtcoffndnfaemoaaGreatDoor
open Go Go.RowKit

def dAllZero (l : List (ByteArray × Int)) : Bool := l.all fun x => decide (x.2 = 0)
def dAllPos (l : List (ByteArray × Int)) : Bool := l.all fun x => decide (0 < x.2)
def dAnyNeg (l : List (ByteArray × Int)) : Bool := l.any fun x => decide (x.2 < 0)
theorem dsgn_zero' (z : Int) : (sgn z == 0) = decide (z = 0) := by
  unfold sgn
  by_cases h1 : z < 0
  · rw [if_pos h1]; have : ¬ z = 0 := by omega
    simp [this]
  · rw [if_neg h1]
    by_cases h2 : 0 < z
    · rw [if_pos h2]; have : ¬ z = 0 := by omega
      simp [this]
    · rw [if_neg h2]; have : z = 0 := by omega
      simp [this]
theorem all_take {α : Type} {l : List α} {f : α → Bool} {k : Nat} (hk : k < l.length) : (l.take (k + 1)).all f = ((l.take k).all f && f l[k]) := by
  rw [List.take_succ_eq_append_getElem hk, List.all_append]; simp
theorem any_take {α : Type} {l : List α} {f : α → Bool} {k : Nat} (hk : k < l.length) : (l.take (k + 1)).any f = ((l.take k).any f || f l[k]) := by
  rw [List.take_succ_eq_append_getElem hk, List.any_append]; simp
theorem all_false {α : Type} {l : List α} {f : α → Bool} {k : Nat} (hk : k < l.length) (h : f l[k] = false) : l.all f = false := by
  rw [Bool.eq_false_iff]; intro e
  have := List.all_eq_true.1 e _ (List.getElem_mem hk)
  rw [h] at this; cases this
theorem any_true {α : Type} {l : List α} {f : α → Bool} {k : Nat} (hk : k < l.length) (h : f l[k] = true) : l.any f = true := List.any_eq_true.2 ⟨_, List.getElem_mem hk, h⟩

end Go.Proofs.YtcoffndnfaemoaaGreatDoor
