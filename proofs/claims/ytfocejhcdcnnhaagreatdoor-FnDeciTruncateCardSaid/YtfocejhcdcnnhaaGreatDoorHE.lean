/-
  Plain lemmas that the laws of the decimals share: bounds, sums, lists in memory.
  sanitizeDecCoins: without zeros, sorted.
-/
import Derived.Test.YtfocejhcdcnnhaaGreatDoorGZ
import Derived.Test.YtfocejhcdcnnhaaGreatDoorHA
import Derived.Test.YtfocejhcdcnnhaaGreatDoorHC
import Derived.Test.YtfocejhcdcnnhaaGreatDoorGV
import Derived.Test.YtfocejhcdcnnhaaGreatDoorHD
namespace Go.Proofs.YtfocejhcdcnnhaaGreatDoor
open Go Go.RowKit

theorem sums_len {l r : List (ByteArray × Int)} (h : SumsTo l r) : r.length ≤ l.length := by
  have h1 : (r.map Prod.fst).length ≤ (l.map Prod.fst).length := List.Nodup.length_le_of_subset (strict_nodup (strict_keys h.1)) (fun s hs => by
    obtain ⟨y, hy, e⟩ := List.mem_map.1 hs
    have h0 : totalP s l ≠ 0 := by rw [← h.2.2 s, (tot_iff h.1 h.2.1 s)]; exact ⟨y, hy, e⟩
    by_cases hex : ∃ x ∈ l, x.1 = s
    · obtain ⟨x, hx, e'⟩ := hex; exact List.mem_map.2 ⟨x, hx, e'⟩
    · exact absurd (totalP_none fun x hx e => hex ⟨x, hx, e⟩) h0)
  simpa using h1
theorem dval_bound {l : List DP} (h : ∀ x ∈ l, DecB x.2.1 x.2.2) : ∀ x ∈ l.map dval, x.2.natAbs ≤ 4000000000001 * 1000000000000000000 := by
  intro x hx
  obtain ⟨y, hy, rfl⟩ := List.mem_map.1 hx
  obtain ⟨⟨a, b⟩, c, d⟩ := h y hy
  show (decV y.2.1 y.2.2).natAbs ≤ _
  unfold decV T18
  omega
theorem bound_b64 {z : Int} (h : z.natAbs ≤ 4000000000001 * 1000000000000000000) : z.natAbs < B64 ^ 2 := by unfold B64; omega
theorem bound_fit' {z : Int} (h : z.natAbs ≤ 4000000000001 * 1000000000000000000) : FitT z := by unfold FitT; omega
theorem dErrOne_text {S : List ByteArray} {x : ByteArray × Int} {t : ByteArray} (h : dErrOne S x = some t) : t ≠ ⟨#[]⟩ := by
  unfold dErrOne at h
  repeat' split at h
  all_goals cases h
  all_goals decide
theorem dErr_text : ∀ (l : List (ByteArray × Int)) (S : List ByteArray) (t : ByteArray), dErr S l = some t → t ≠ ⟨#[]⟩
  | [], _, _, h => by cases h
  | x :: r, S, t, h => by
    cases h1 : dErrOne S x with
    | some u => rw [dErr_some h1] at h; injection h with h; subst h; exact dErrOne_text h1
    | none => rw [dErr_none h1] at h; exact dErr_text r _ t h
end Go.Proofs.YtfocejhcdcnnhaaGreatDoor

namespace Go.Proofs.YtfocejhcdcnnhaaGreatDoor
open Go Go.RowKit

/-- Sorted coins handed back. -/
def RetSanD (l : List Co) (w : World) (e : Ending) (w' : World) : Prop :=
  ∃ (A : Option Addr) (c : Nat) (L : List Co), e = .returned (.slice A L.length c) ∧ DCoinsAt w' A L ∧ L.length ≤ c ∧ c ≤ 9223372036854775807 ∧ L.Perm (dnz l) ∧ (L.Pairwise fun a b => le (Co.s a) (Co.s b)) ∧ Ext w w'
theorem own_capD {w : World} {base n k : Nat} {E : TypeId} {v : Value} {xs : List Value} (h : w.ownsRow base E k v n xs) : ∃ A c, v = .slice A n c ∧ n ≤ c ∧ c ≤ 9223372036854775807 := by
  rcases h.2 with ⟨rfl, rfl⟩ | ⟨g, cap, _, rfl, _, _, hn, hm, _⟩
  · exact ⟨_, _, rfl, Nat.le_refl _, by omega⟩
  · exact ⟨_, _, rfl, hn, by unfold maxLen at hm; omega⟩
set_option maxRecDepth 100000 in
set_option maxHeartbeats 1000000 in
theorem tdSanitize (A : Option Addr) (n c : Nat) (l : List Co) (w : World) (hl : l.length = n) (hn : n ≤ 12) (h : DCoinsAt w A l) :
    Calls Tryz.prog 95 #[.slice A n c] w (RetSanD l w) := by
  have H1 := Lib.hid (tdRemoveZero A n c l w hl (by omega) h)
  have HL := Lib.hid (show (dnz l).length ≤ 12 by have := List.length_filter_le (fun x : Co => decide (x.z ≠ 0)) l; unfold dnz; omega)
  clear hl h
  go_enter Tryz.func95, Tryz.ntmps95
  go_wp2_with (fail)
  go_at_call 105
  refine H1.out.mono ?_
  rintro e w1 ⟨v1, rfl, ho, hE⟩
  have HE1 := Lib.hid hE
  have H2 := Lib.hid (tdSortOwn w.heap.size v1 (dnz l) w1 (Or.inl HL.out) ho)
  obtain ⟨A1, c1, rfl, hc1, hm1⟩ := own_capD ho.1
  obtain ⟨m, hm⟩ : ∃ m, m = (dnz l).length := ⟨_, rfl⟩
  rw [← hm] at H2 ⊢
  have HM := Lib.hid hm
  clear ho hE
  by_cases h0 : m = 0
  · subst h0
    have hnil : dnz l = [] := List.length_eq_zero_iff.1 hm.symm
    have HN := Lib.hid hnil
    clear hm hnil
    go_wp2
    go_ret
    exact ⟨_, 0, [], rfl, ⟨fun h => absurd rfl h, (fun _ h => nomatch h)⟩, Nat.le_refl _, by omega, by rw [HN.out], List.Pairwise.nil, HE1.out.trans' (ext1 _ _)⟩
  · have hz : ((m : Int) == 0) = false := by simp; omega
    clear hm
    go_wp2_with (fail)
    go_at_call 110
    refine H2.out.mono ?_
    rintro e w2 ⟨rfl, L, ho, hp, hw, hext, -, -⟩
    have HLL := Lib.hid (show L.length = m by rw [hp.length_eq, HM.out])
    have HR := Lib.hid (And.intro (dcoinsAt_own ho HLL.out) (And.intro hp (And.intro hw (hext w HE1.out (Nat.le_refl _)))))
    have HC := Lib.hid (And.intro hc1 hm1)
    clear ho hp hw hext H2 hc1 hm1
    go_wp2
    go_ret
    exact ⟨A1, c1, L, by rw [HLL.out]; rfl, HR.out.1, by rw [HLL.out, HM.out]; exact HC.out.1, HC.out.2, HR.out.2.1, HR.out.2.2.1, HR.out.2.2.2⟩

/-- What MakeDecCoins hands back. -/
def RetMakeD (l : List Co) (w : World) (e : Ending) (w' : World) : Prop :=
  ∃ L : List Co, L.Perm (dnz l) ∧ (L.Pairwise fun a b => le (Co.s a) (Co.s b)) ∧ ((dErr [] (L.map Co.val) = none ∧ ∃ (A : Option Addr) (c : Nat), e = .returned (.tuple #[.slice A L.length c, .nilIface]) ∧ DCoinsAt w' A L) ∨
    (dErr [] (L.map Co.val) ≠ none ∧ ∃ b : Nat, e = .returned (.tuple #[.slice none 0 0, .iface 161 (.pointer (some ⟨b, 0, none⟩))]))) ∧ Ext w w'
set_option maxRecDepth 100000 in
set_option maxHeartbeats 1000000 in
theorem tdMake (A : Option Addr) (n c : Nat) (l : List Co) (w : World) (hl : l.length = n) (hn : n ≤ 12) (h : DCoinsAt w A l) (hsz : ∀ x ∈ l, x.s.size ≤ maxLen) :
    Calls Tryz.prog 56 #[.slice A n c] w (RetMakeD l w) := by
  have H1 := Lib.hid (tdSanitize A n c l w hl hn h)
  have HSZ := Lib.hid hsz; have HL := Lib.hid hl
  clear hl h hsz
  go_enter Tryz.func56, Tryz.ntmps56
  go_wp2_with (fail)
  go_at_call 95
  refine H1.out.mono ?_
  rintro e w1 ⟨A1, c1, L, rfl, hat, hc, hm, hp, hw, hE⟩
  have HLL : L.length ≤ 12 := by
    have h1 := hp.length_eq
    have h2 := List.length_filter_le (fun x : Co => decide (x.z ≠ 0)) l
    have := HL.out
    unfold dnz at h1; omega
  have HV := Lib.hid (tdValidateAll A1 L.length c1 L w1 rfl (by omega) hc hm hat (fun x hx => HSZ.out x ((List.mem_filter.1 (show x ∈ l.filter _ from hp.mem_iff.1 hx)).1)))
  obtain ⟨o, ho⟩ : ∃ o, o = dErr [] (L.map Co.val) := ⟨_, rfl⟩
  rw [← ho] at HV
  have HAT := Lib.hid hat; have HR := Lib.hid (And.intro hp (And.intro hw ho)); have HE := Lib.hid hE
  clear hat hc hm hp hw hE ho H1
  go_wp2_with (fail)
  go_at_call 66
  refine HV.out.mono ?_
  cases o with
  | none =>
    rintro e w2 ⟨rfl, hE⟩
    have HE2 := Lib.hid hE; clear hE HV
    go_wp2
    go_ret2
    exact ⟨L, HR.out.1, HR.out.2.1, Or.inl ⟨HR.out.2.2.symm, A1, c1, rfl, HAT.out.ext HE2.out⟩, HE.out.trans' HE2.out⟩
  | some t =>
    rintro e w2 ⟨eb, rfl, hB, hE⟩
    have HE2 := Lib.hid hE; clear hE hB HV
    go_wp2_with (first | (go_at_call 96; refine (eNew _ _).mono ?_; rintro e w3 ⟨b3, rfl, hB, hE⟩; have HE3 := Lib.hid (HE2.out.trans' hE); clear hB hE) | fail)
    go_ret2
    exact ⟨L, HR.out.1, HR.out.2.1, Or.inr ⟨by rw [← HR.out.2.2]; simp, b3, rfl⟩, HE.out.trans' HE3.out⟩

/-- What DecNew hands back. -/
def RetNewD (l : List (ByteArray × Int)) (w : World) (e : Ending) (w' : World) : Prop :=
  ∃ x : List (ByteArray × Int), x.Perm (vnz l) ∧ (x.Pairwise fun a b => le a.1 b.1) ∧ ((dErr [] x = none ∧ ∃ v, e = .returned (.tuple #[v, .bool true]) ∧ DPlainOwn w' w.heap.size v (x.map dback)) ∨ (dErr [] x ≠ none ∧ ∃ v, e = .returned (.tuple #[v, .bool false]))) ∧ Ext w w'
set_option maxRecDepth 100000 in
set_option maxHeartbeats 1000000 in
theorem iDecNew (A : Option Addr) (n c : Nat) (la : List DP) (w : World) (hla : la.length = n) (hn : n ≤ 12) (hA : DPlainAt w A la) (hza : ∀ x ∈ la, DecB x.2.1 x.2.2) (hsz : ∀ x ∈ la, x.1.size ≤ maxLen) (hT : Thr w) (hf : ∀ x ∈ la.map dval, FitT x.2) :
    Calls Tryz.prog 23 #[.slice A n c] w (RetNewD (la.map dval) w) := by
  have H1 := Lib.hid (iDecCoins A n c la w hla (by omega) hA hza hT)
  have HL := Lib.hid hla; have HSZ := Lib.hid hsz; have HF := Lib.hid hf
  clear hla hA hza hsz hT hf
  go_enter Tryz.func23, Tryz.ntmps23
  go_wp2_with (fail)
  go_at_call 42
  refine H1.out.mono ?_
  rintro e w1 ⟨v1, ca, rfl, va, oa, hE1⟩
  obtain ⟨A1, c1, rfl, hc1⟩ := down_cap oa.1
  have H2 := Lib.hid (tdMake A1 ca.length c1 ca w1 rfl (by rw [val_len va, HL.out]; exact hn) (dcoinsAt_own oa rfl) (fun x hx => by
    have h1 : x.val ∈ la.map dval := by rw [← va]; exact List.mem_map_of_mem hx
    obtain ⟨y, hy, e⟩ := List.mem_map.1 h1
    have h3 : x.s = y.1 := (congrArg Prod.fst e).symm
    rw [h3]; exact HSZ.out y hy))
  have VA := Lib.hid va; have HE1 := Lib.hid hE1
  clear va oa hE1 hc1
  go_wp2_with (fail)
  go_at_call 56
  refine H2.out.mono ?_
  rintro e w2 ⟨L, hp, hw, hcase, hE2⟩
  have HE2 := Lib.hid (HE1.out.trans' hE2)
  have HP := Lib.hid (show (L.map Co.val).Perm (vnz (la.map dval)) by rw [← VA.out, ← dnz_val]; exact hp.map _)
  have HW := Lib.hid (show (L.map Co.val).Pairwise fun a b => le a.1 b.1 from List.pairwise_map.2 hw)
  have HLL := Lib.hid (show L.length ≤ 1000000 by
    have h1 := HP.out.length_eq
    have h2 : (vnz (la.map dval)).length ≤ (la.map dval).length := List.length_filter_le _ _
    rw [List.length_map] at h1 h2
    have := HL.out; omega)
  clear hp hw hE2
  rcases hcase with ⟨ho, A2, c2, rfl, hat⟩ | ⟨ho, b, rfl⟩
  · have HB := Lib.hid (iBackDecs A2 L.length c2 L w2 rfl HLL.out hat (fun x hx => HF.out x.val (vnz_mem (HP.out.mem_iff.1 (List.mem_map_of_mem hx))).1))
    rw [show (L.map fun x => dback x.val) = (L.map Co.val).map dback by rw [List.map_map]; rfl] at HB
    have HO := Lib.hid ho
    clear hat ho
    go_wp2_with (fail)
    go_at_call 41
    refine HB.out.mono ?_
    rintro e w3 ⟨v3, rfl, hown, hE⟩
    have HR := Lib.hid hown; have HE3 := Lib.hid (HE2.out.trans' hE); clear hown hE
    go_wp2
    go_ret2
    exact ⟨_, HP.out, HW.out, Or.inl ⟨HO.out, v3, rfl, HR.out.low HE2.out.size⟩, HE3.out⟩
  · have HO := Lib.hid ho
    clear ho
    go_wp2
    go_ret2
    exact ⟨_, HP.out, HW.out, Or.inr ⟨HO.out, _, rfl⟩, HE2.out⟩
theorem dErrOne_none {S : List ByteArray} {x : ByteArray × Int} (h : dErrOne S x = none) : seenB S x.1 = false := by
  unfold dErrOne at h
  split at h
  · cases h
  · next k => simpa using k
theorem dErr_apart : ∀ (l : List (ByteArray × Int)) (S : List ByteArray), dErr S l = none → (∀ x ∈ l, seenB S x.1 = false) ∧ l.Pairwise fun a b => a.1 ≠ b.1
  | [], _, _ => ⟨(fun _ h => nomatch h), List.Pairwise.nil⟩
  | x :: r, S, h => by
    cases h1 : dErrOne S x with
    | some t => rw [dErr_some h1] at h; cases h
    | none =>
      rw [dErr_none h1] at h
      obtain ⟨k1, k2⟩ := dErr_apart r _ h
      have hs : ∀ y ∈ r, seenB S y.1 = false ∧ y.1 ≠ x.1 := fun y hy => by
        have := k1 y hy
        unfold seenB at this ⊢
        simp at this ⊢
        exact ⟨this.1, fun e => this.2 e.symm⟩
      refine ⟨fun y hy => ?_, List.pairwise_cons.2 ⟨fun y hy e => (hs y hy).2 e.symm, k2⟩⟩
      rcases List.mem_cons.1 hy with rfl | hy
      · exact dErrOne_none h1
      · exact (hs y hy).1
theorem dErr_asc {l : List (ByteArray × Int)} (h : dErr [] l = none) (hw : l.Pairwise fun a b => le a.1 b.1) : AscP l := by
  refine (List.pairwise_and_iff.2 ⟨hw, (dErr_apart l [] h).2⟩).imp fun {a b} ⟨h1, h2⟩ => ?_
  cases hk : keyLt a.1 b.1
  · exact absurd (keyLt_tri hk h1) h2
  · rfl
end Go.Proofs.YtfocejhcdcnnhaaGreatDoor
