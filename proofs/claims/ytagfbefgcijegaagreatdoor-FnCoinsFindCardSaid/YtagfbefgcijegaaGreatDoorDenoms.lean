/-
  The contracts of Coins.Denoms and impl.DenomsOf.
-/
import Derived.Test.YtagfbefgcijegaaGreatDoorFind2
import Derived.Laws.OwnMore
import Derived.Deep.OwnRows
namespace Go.Proofs.YtagfbefgcijegaaGreatDoor
open Go Go.RowKit

/-- Names, one behind the other. -/
def NamesAt (w : World) (A : Option Addr) (ns : List ByteArray) : Prop := ns ≠ [] → ∃ g o, A = some ⟨g, o, none⟩ ∧ ∀ j (h : j < ns.length), w.cell? ⟨g, o + j, none⟩ = some (.string ns[j])
theorem NamesAt.ext {w w' : World} {A : Option Addr} {ns : List ByteArray} (h : NamesAt w A ns) (e : Ext w w') : NamesAt w' A ns := fun hn => by
  obtain ⟨g, o, ha, hc⟩ := h hn
  exact ⟨g, o, ha, fun j hj => e.cell' (hc j hj)⟩
def RetNames (ns : List ByteArray) (w : World) (e : Ending) (w' : World) : Prop := ∃ A, e = .returned (.slice A ns.length ns.length) ∧ NamesAt w' A ns ∧ Ext w w'
theorem infoName : (Tryz.prog.info? 9).map (fun i => (i.zero, i.size, i.bytes)) = some (some (.string ByteArray.empty), 1, 16) := by kernel_rfl
/-- The first k names laid. -/
def pn (ns : List ByteArray) (k n : Nat) : List Value := (ns.take k).map Value.string ++ List.replicate (n - k) (.string ByteArray.empty)
theorem pn_set {ns : List ByteArray} {k n : Nat} (hn : ns.length = n) (hk : k < ns.length) : (pn ns k n).set k (.string ns[k]) = pn ns (k + 1) n := by
  have hl : ((ns.take k).map Value.string).length = k := by simp; omega
  unfold pn
  rw [List.set_append_right _ _ (by omega), hl, Nat.sub_self, show n - k = n - (k + 1) + 1 by omega, List.replicate_succ, List.set_cons_zero, List.take_succ_eq_append_getElem hk, List.map_append]
  simp only [List.map_cons, List.map_nil, List.append_assoc, List.cons_append, List.nil_append]
theorem pn_len {ns : List ByteArray} {k n : Nat} (hn : ns.length = n) (hk : k ≤ n) : (pn ns k n).length = n := by unfold pn; simp; omega
theorem pn_full {ns : List ByteArray} {n : Nat} (hn : ns.length = n) : pn ns n n = ns.map Value.string := by unfold pn; simp [← hn]

set_option maxRecDepth 100000 in
set_option maxHeartbeats 1000000 in
theorem tDenoms (A : Option Addr) (n c : Nat) (l : List Co) (w : World) (hl : l.length = n) (hn : n ≤ 1000000) (h : CoinsAt w A l) :
    Calls Tryz.prog 82 #[.slice A n c] w (RetNames (l.map Co.s) w) := by
  obtain ⟨i0, hi, hz0, hz1, hz2⟩ := info_parts infoName
  obtain ⟨ns, hns⟩ : ∃ ns, ns = l.map Co.s := ⟨_, rfl⟩
  have HL := Lib.hid hl; have HP := Lib.hid h; have HNS := Lib.hid hns; have HNL := Lib.hid (show ns.length = n by rw [hns]; simp [hl])
  rw [← hns]
  clear hl h hns
  go_enter Tryz.func82, Tryz.ntmps82
  go_wp2_with (first | (at_make; refine wpList_make_row _ rfl _ _ 41 rfl 9 i0 _ Tryz.underlying41 hi hz0 hz1 rfl .i64 .i64 n rfl rfl (by rw [hz2]; omega) (by omega) ?_))
  go_loopw [11] (fun i wr => ∃ (k : Nat), k ≤ n ∧ i = .int .i64 k ∧ Blk wr w.heap.size 9 (pn ns k n) ∧ Ext w wr) (fun i _ => n - (intOf i).toNat)
  case atStart =>
    refine ⟨0, Nat.zero_le _, rfl, ?_, Ext.alloc' _ _⟩
    have := Blk.new w 9 (madeCells #[Value.string ByteArray.empty] n).toList
    rw [toList_madeCells_one] at this
    unfold pn
    simp only [List.take_zero, List.map_nil, List.nil_append, Nat.sub_zero]
    have e : (madeCells #[Value.string ByteArray.empty] n) = (List.replicate n (Value.string ByteArray.empty)).toArray := by rw [← toList_madeCells_one]
    first | (rw [e]; exact this) | exact this
  case round =>
    obtain ⟨k, hk, rfl, hb, hE⟩ := hrel
    have HB := Lib.hid hb; have HE := Lib.hid hE
    clear hb hE
    by_cases hlt : k < n
    · have hkl : k < l.length := by rw [HL.out]; exact hlt
      obtain ⟨s, hs⟩ : ∃ s, s = l[k].s := ⟨_, rfl⟩
      obtain ⟨b, hbb⟩ : ∃ b, b = l[k].b := ⟨_, rfl⟩
      obtain ⟨g, o, hA, hc⟩ := HP.out.1 (by intro e; have := congrArg List.length e; simp at this; rw [this] at hkl; simp at hkl)
      subst hA
      have hck := hc k (by simpa using hkl)
      have cs0 : wr.cell? ⟨g, o + k * 2, none⟩ = some (.string s) := HE.out.cell' (by rw [hck.1, hs]; simp [Co.pair])
      have cs1 : wr.cell? ⟨g, o + k * 2 + 1, none⟩ = some (.pointer (some ⟨b, 0, none⟩)) := HE.out.cell' (by rw [hck.2, hbb]; simp [Co.pair])
      have HK := Lib.hid (HB.out.alloc (coinBox s b))
      obtain ⟨u, hu⟩ := HK.out.old k (by rw [pn_len HNL.out hk]; exact hlt)
      have hf := HK.out.frozen k
      have hkn : k < ns.length := by rw [HNL.out]; exact hlt
      have HS := Lib.hid (show Value.string s = Value.string ns[k] by congr 1; rw [hs]; simp [HNS.out])
      have b0 : (0 : Int) ≤ (k : Int) := by omega
      have b1 : (k : Int) < (n : Int) := by omega
      clear hs hbb hck hc
      go_wp2
      go_roundw
      case rel =>
        refine ⟨k + 1, by omega, by go_num, ?_, Only.ext (HE.out.trans' (Ext.alloc' _ _)) ((Only.refl w.heap.size _).set_ k _) (Nat.le_refl _)⟩
        have := HK.out.set_ k (.string s)
        have e := pn_set HNL.out hkn
        rw [← HS.out] at e
        rw [e] at this; exact this
      case measure => simp [intOf]; omega
    · obtain rfl : k = n := by omega
      go_wp2
      go_ret
      have hb := HB.out
      rw [pn_full HNL.out] at hb
      refine ⟨some ⟨w.heap.size, 0, none⟩, by rw [HNL.out]; rfl, fun _ => ⟨w.heap.size, 0, rfl, fun j hj => ?_⟩, HE.out⟩
      rw [Nat.zero_add, hb.cell, List.getElem?_map, List.getElem?_eq_getElem hj]; rfl

set_option maxRecDepth 100000 in
theorem iDenomsOf (A : Option Addr) (n c : Nat) (l : List (ByteArray × Int)) (w : World) (hl : l.length = n) (hn : n ≤ 1000) (h : PlainAt w A l) (hz : ∀ x ∈ l, -maxI ≤ x.2 ∧ x.2 ≤ maxI) :
    Calls Tryz.prog 36 #[.slice A n c] w (RetNames (l.map Prod.fst) w) := by
  have H1 := Lib.hid (iCoins A n c l w hl (by omega) h hz)
  have HL := Lib.hid hl
  clear hl h hz
  go_enter Tryz.func36, Tryz.ntmps36
  go_wp2_with (fail)
  go_at_call 72
  refine H1.out.mono ?_
  rintro e w1 ⟨v, cs, rfl, hcv, hown, hE⟩
  obtain ⟨A1, c1, rfl⟩ := coins_shape hown
  have HO := Lib.hid (own_at hown).1; have HV := Lib.hid hcv; have HE := Lib.hid hE; have HN := Lib.hid (show cs.length = n by rw [← HL.out, ← hcv]; simp)
  clear hown hcv hE
  go_wp2_with (fail)
  go_at_call 82
  refine (tDenoms A1 cs.length c1 cs _ rfl (by have := HN.out; omega) HO.out).mono ?_
  rintro e w2 ⟨B, rfl, hN, hE2⟩
  have HR := Lib.hid (And.intro hN hE2)
  clear hN hE2
  go_wp2
  go_ret
  rw [← fst_of HV.out]
  exact ⟨B, by simp, HR.out.1, HE.out.trans' HR.out.2⟩

theorem names_n {w w' : World} {e : Ending} {l : List (ByteArray × Int)} {n : Nat} (h : RetNames (l.map Prod.fst) w e w') (hn : l.length = n) : ∃ A, e = .returned (.slice A n n) ∧ NamesAt w' A (l.map Prod.fst) ∧ Ext w w' := by
  subst hn
  obtain ⟨A, he, hN, hE⟩ := h
  rw [List.length_map] at he
  exact ⟨A, he, hN, hE⟩
theorem find_amount {l : List (ByteArray × Int)} {d : ByteArray} (hs : l.Pairwise fun a b => keyLt a.1 b.1 = true) (hp : ∀ x ∈ l, 0 < x.2) : ((∃ y ∈ l, y.1 = d) ∧ 0 < totalP d l) ∨ (∀ y ∈ l, y.1 ≠ d) ∧ totalP d l = 0 := by
  by_cases h : ∃ y ∈ l, y.1 = d
  · refine Or.inl ⟨h, ?_⟩
    obtain ⟨y, hy, rfl⟩ := h
    rw [tot_get hs hy]; exact hp y hy
  · have h' : ∀ y ∈ l, y.1 ≠ d := fun y hy e => h ⟨y, hy, e⟩
    exact Or.inr ⟨h', totalP_none h'⟩
theorem total_max {l : List (ByteArray × Int)} {d : ByteArray} (hs : l.Pairwise fun a b => keyLt a.1 b.1 = true) (hb : ∀ x ∈ l, -maxI ≤ x.2 ∧ x.2 ≤ maxI) : -maxI ≤ totalP d l ∧ totalP d l ≤ maxI := by
  by_cases h : ∃ y ∈ l, y.1 = d
  · obtain ⟨y, hy, rfl⟩ := h
    rw [tot_get hs hy]; exact hb y hy
  · rw [totalP_none fun y hy e => h ⟨y, hy, e⟩]; unfold maxI; omega
theorem findin_some {l : List (ByteArray × Int)} {d : ByteArray} {w w' : World} {e : Ending} (h : RetFindIn l d w e w') (hs : l.Pairwise fun a b => keyLt a.1 b.1 = true) (hy : ∃ y ∈ l, y.1 = d) : e = .returned (.tuple #[.agg #[.string d, .int .i64 (totalP d l)], .bool true]) ∧ Ext w w' := by
  obtain ⟨h1, h2⟩ := h
  refine ⟨?_, h2⟩
  rcases h1 with ⟨_, hno⟩ | ⟨x, hx, rfl, rfl⟩
  · obtain ⟨y, hy, e⟩ := hy
    exact absurd e (hno y hy)
  · rw [tot_get hs hx]
theorem findin_none {l : List (ByteArray × Int)} {d : ByteArray} {w w' : World} {e : Ending} (h : RetFindIn l d w e w') (_ : l.Pairwise fun a b => keyLt a.1 b.1 = true) (hno : ∀ y ∈ l, y.1 ≠ d) : e = .returned (.tuple #[.agg #[.string ⟨#[]⟩, .int .i64 0], .bool false]) ∧ Ext w w' := by
  obtain ⟨h1, h2⟩ := h
  refine ⟨?_, h2⟩
  rcases h1 with ⟨rfl, _⟩ | ⟨x, hx, hd, _⟩
  · rfl
  · exact absurd hd (hno x hx)
end Go.Proofs.YtagfbefgcijegaaGreatDoor
