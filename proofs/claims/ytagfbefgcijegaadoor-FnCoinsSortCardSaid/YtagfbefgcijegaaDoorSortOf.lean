/-
  The contract of impl.SortOf, up to 12 coins.
-/
import Derived.Test.YtagfbefgcijegaaDoorAdd
namespace Go.Proofs.YtagfbefgcijegaaDoor
open Go Go.RowKit

/-- Plain coins handed back, in order. -/
def RetSorted (E : TypeId) (l : List (ByteArray × Int)) (w : World) (e : Ending) (w' : World) : Prop := ∃ r, RetPlain E r w e w' ∧ r.Perm l ∧ r.Pairwise fun a b => le a.1 b.1

set_option maxRecDepth 100000 in
theorem tSortNil (w : World) : Calls Tryd.prog 22 #[.slice none 0 0] w fun e w' => e = .returned (.slice none 0 0) ∧ w' = w := by
  go_enter Tryd.func22, Tryd.ntmps22
  go_wp2
  go_ret
  exact ⟨rfl, rfl⟩
/-- Coins.Sort of coins of the call's own, in order behind it. -/
def RetOwnSorted (base : Nat) (L0 : List Co) (w : World) (e : Ending) (w' : World) : Prop :=
  ∃ v L, e = .returned v ∧ CoinsOwn w' base v L ∧ L.Perm L0 ∧ (L.Pairwise fun a b => le (Co.s a) (Co.s b)) ∧ ∀ w0 : World, Ext w0 w → w0.heap.size ≤ base → Ext w0 w'
theorem tSortOwn {base : Nat} {v : Value} {L0 : List Co} {w : World} (h : CoinsOwn w base v L0) (hn : L0.length ≤ 12) : Calls Tryd.prog 22 #[v] w (RetOwnSorted base L0 w) := by
  rcases h.1.2 with ⟨hv, hn0⟩ | ⟨g, cap, cur, hv, hbg, hgb, hnc, hcm, hcs, hct⟩
  · subst hv
    obtain rfl : L0 = [] := List.length_eq_zero_iff.1 hn0
    refine (tSortNil w).mono ?_
    rintro e w' ⟨rfl, rfl⟩
    exact ⟨_, [], rfl, CoinsOwn.nil _ _, List.Perm.refl _, List.Pairwise.nil, fun w0 e0 _ => e0⟩
  · subst hv
    have hrow := row_of_own hgb hct
    refine (tSort g L0.length cap L0 _ w hrow rfl (Or.inl hn)).mono ?_
    rintro e w' ⟨rfl, L, hr, ho, hP, hS⟩
    have hl := hP.length_eq
    have h1 : (flat2 (L.map Co.pair)).length = L.length * 2 := by rw [flat2_length]; simp
    refine ⟨_, L, rfl, ⟨⟨by rw [flat2_length]; simp, Or.inr ⟨g, cap, (flat2 (L.map Co.pair) ++ cur.toList.drop (L0.length * 2)).toArray, by rw [hl], hbg, hr, by omega, hcm, ?_, ?_⟩⟩, fun x hx => (h.2 x (hP.mem_iff.1 hx)).only ho hrow⟩, hP, hS, fun w0 e0 hb => Only.ext e0 ho (by omega)⟩
    · simp [h1]; omega
    · rw [show (flat2 (L.map Co.pair) ++ cur.toList.drop (L0.length * 2)).toArray.toList = flat2 (L.map Co.pair) ++ cur.toList.drop (L0.length * 2) from rfl, List.take_append_of_le_length (by omega), List.take_of_length_le (by omega)]

theorem perm_plain {L cs : List Co} {l : List (ByteArray × Int)} (hP : L.Perm cs) (hv : cs.map Co.val = l) : (L.map Co.val).Perm l := hv ▸ hP.map _
set_option maxRecDepth 100000 in
set_option maxHeartbeats 1000000 in
theorem iSortOf (A : Option Addr) (n c : Nat) (l : List (ByteArray × Int)) (w : World) (hl : l.length = n) (hn : n ≤ 12) (h : PlainAt w A l) (hz : ∀ x ∈ l, -maxI ≤ x.2 ∧ x.2 ≤ maxI) :
    Calls Tryd.prog 13 #[.slice A n c] w (RetSorted 40 l w) := by
  have H1 := Lib.hid (iCoins A n c l w hl (by omega) h hz)
  have HL := Lib.hid hl; have HZ := Lib.hid hz
  clear hl h hz
  go_enter Tryd.func13, Tryd.ntmps13
  go_wp2_with (first | (go_at_call 21; (with_reducible refine H1.out.mono ?_); rintro e w1 ⟨v, cs, rfl, hcv, hown, hE⟩; have HV := Lib.hid hcv; have HO := Lib.hid hown; have HE := Lib.hid hE; have HN := Lib.hid (show cs.length = n by rw [← HL.out, ← hcv]; simp); clear hcv hown hE) | (go_at_call 22; refine (tSortOwn HO.out (by rw [HN.out]; exact hn)).mono ?_; rintro e w2 ⟨v2, L, rfl, ho2, hP, hS, hE2⟩; obtain ⟨A2, c2, rfl⟩ := coins_shape ho2; have HO2 := Lib.hid ho2; have HP := Lib.hid hP; have HS := Lib.hid hS; have HE2 := Lib.hid (hE2 w HE.out (Nat.le_refl _)); clear ho2 hP hS hE2) | (go_at_call 20; refine (iBackCoins A2 L.length c2 L _ rfl (by rw [HP.out.length_eq, HN.out]; omega) (own_at HO2.out).1 (fun x hx => HZ.out x.val (by rw [← HV.out]; exact List.mem_map_of_mem (HP.out.mem_iff.1 hx)))).mono ?_; rintro e w3 ⟨v3, rfl, ho3, hE3⟩; have HO3 := Lib.hid ho3; have HE3 := Lib.hid hE3; clear ho3 hE3))
  go_ret
  exact ⟨L.map Co.val, ⟨_, rfl, row_low HO3.out HE2.out.size, HE2.out.trans' HE3.out⟩, perm_plain HP.out HV.out, by rw [List.pairwise_map]; exact HS.out⟩
end Go.Proofs.YtagfbefgcijegaaDoor
