/-
  Lists of decimal coins: plain data (records of three cells) and types.DecCoin in memory; impl.decCoins.
  The laws' guards for decimal coins: sizes, deciIs, deciFew.
  The contract of removeZeroDecCoins.
  append of decimal coins onto a row of the call's own; the merging of decimal coins in plain lists; zzCompare.
-/
import Derived.Test.YtcoffndnfaemoaaGreatDoorGP
import Derived.Test.YtcoffndnfaemoaaGreatDoorGC
namespace Go.Proofs.YtcoffndnfaemoaaGreatDoor
open Go Go.RowKit

/-- The cells of records of three. -/
def flat3 (l : List (Value × Value × Value)) : List Value := l.flatMap fun p => [p.1, p.2.1, p.2.2]
theorem flat3_length (l : List (Value × Value × Value)) : (flat3 l).length = l.length * 3 := by
  unfold flat3
  induction l with
  | nil => rfl
  | cons a l ih => simp only [List.flatMap_cons, List.length_append, ih, List.length_cons, List.length_nil]; omega
theorem flat3_append (l m : List (Value × Value × Value)) : flat3 (l ++ m) = flat3 l ++ flat3 m := by simp [flat3]
theorem flat3_get (l : List (Value × Value × Value)) (j : Nat) (h : j < l.length) : (flat3 l)[j * 3]? = some l[j].1 ∧ (flat3 l)[j * 3 + 1]? = some l[j].2.1 ∧ (flat3 l)[j * 3 + 2]? = some l[j].2.2 := by
  induction l generalizing j with
  | nil => simp at h
  | cons a l ih =>
    cases j with
    | zero => exact ⟨rfl, rfl, rfl⟩
    | succ j =>
      have := ih j (by simpa using h)
      refine ⟨?_, ?_, ?_⟩
      · rw [show (j + 1) * 3 = j * 3 + 1 + 1 + 1 by omega]; simpa [flat3] using this.1
      · rw [show (j + 1) * 3 + 1 = j * 3 + 1 + 1 + 1 + 1 by omega]; simpa [flat3] using this.2.1
      · rw [show (j + 1) * 3 + 2 = j * 3 + 2 + 1 + 1 + 1 by omega]; simpa [flat3] using this.2.2
/-- A slice value whose records of three are ps. -/
def RecAt3 (w : World) (A : Option Addr) (ps : List (Value × Value × Value)) : Prop :=
  ps ≠ [] → ∃ g o, A = some ⟨g, o, none⟩ ∧ ∀ j (h : j < ps.length), w.cell? ⟨g, o + j * 3, none⟩ = some ps[j].1 ∧ w.cell? ⟨g, o + j * 3 + 1, none⟩ = some ps[j].2.1 ∧ w.cell? ⟨g, o + j * 3 + 2, none⟩ = some ps[j].2.2
theorem RecAt3.ext {w w' : World} {A : Option Addr} {ps : List (Value × Value × Value)} (h : RecAt3 w A ps) (e : Ext w w') : RecAt3 w' A ps := fun hn => by
  obtain ⟨g, o, ha, hc⟩ := h hn
  exact ⟨g, o, ha, fun j hj => ⟨e.cell' (hc j hj).1, e.cell' (hc j hj).2.1, e.cell' (hc j hj).2.2⟩⟩
theorem RecAt3.nil (w : World) (A : Option Addr) : RecAt3 w A [] := fun h => absurd rfl h
theorem recAt3_of_owns {w : World} {base : Nat} {E : TypeId} {A : Option Addr} {c : Nat} {ps : List (Value × Value × Value)} {n : Nat} (hl : ps.length = n) (h : w.ownsRow base E 3 (.slice A n c) n (flat3 ps)) : RecAt3 w A ps := fun hn => by
  have hp : 0 < ps.length := List.length_pos_iff.2 hn
  obtain ⟨g, cap, hv, _, _⟩ := h.form (by omega)
  have hA : A = some ⟨g, 0, none⟩ := by injection hv
  subst hA
  have hc := h.cells (g := g) rfl
  refine ⟨g, 0, rfl, fun j hj => ?_⟩
  have h2 := flat3_get ps j hj
  have c1 := hc (j * 3) _ h2.1
  have c2 := hc (j * 3 + 1) _ h2.2.1
  have c3 := hc (j * 3 + 2) _ h2.2.2
  refine ⟨?_, ?_, ?_⟩
  · simp only [Addr.add] at c1; split at c1 <;> simp_all
  · simp only [Addr.add] at c2; split at c2 <;> simp_all
  · simp only [Addr.add] at c3; split at c3 <;> simp_all

/-- Decimal coins as plain data. -/
abbrev DP := ByteArray × Int × Int
def dplain (x : DP) : Value × Value × Value := (.string x.1, .int .i64 x.2.1, .int .i64 x.2.2)
def DPlainAt (w : World) (A : Option Addr) (l : List DP) : Prop := RecAt3 w A (l.map dplain)
theorem DPlainAt.ext {w w' : World} {A : Option Addr} {l : List DP} (h : DPlainAt w A l) (e : Ext w w') : DPlainAt w' A l := RecAt3.ext h e
def DPlainOwn (w : World) (base : Nat) (v : Value) (l : List DP) : Prop := w.ownsRow base 48 3 v l.length (flat3 (l.map dplain))
theorem DPlainOwn.nil (w : World) (base : Nat) : DPlainOwn w base (.slice none 0 0) [] := World.ownsRow_nil _ _ _ _
theorem DPlainOwn.ext {w w' : World} {base : Nat} {v : Value} {l : List DP} (h : DPlainOwn w base v l) (e : Ext w w') : DPlainOwn w' base v l := owns_ext h e
theorem dplain_push {w w1 w2 : World} {v v' : Value} {l : List DP} {s : ByteArray} {x y : Int} (h : DPlainOwn w1 w.heap.size v l) (e : Ext w w1)
    (hown : w2.ownsRow w.heap.size 48 3 v' (l.length + 1) (flat3 (l.map dplain) ++ [.string s, .int .i64 x, .int .i64 y])) (hg : w1.grownBy w2 v.ownBlock) :
    DPlainOwn w2 w.heap.size v' (l ++ [(s, x, y)]) ∧ Ext w w2 := by
  refine ⟨?_, ext_grown e h hg⟩
  unfold DPlainOwn
  rw [List.length_append, List.map_append, flat3_append]; exact hown
/-- The value of a decimal coin of plain data. -/
def dval (x : DP) : ByteArray × Int := (x.1, decV x.2.1 x.2.2)

/-- The amounts of decimal coins lie in memory. -/
def DBigs (w : World) (cs : List Co) : Prop := ∀ c ∈ cs, BigK w c.b c.z
theorem DBigs.ext {w w' : World} {cs : List Co} (h : DBigs w cs) (e : Ext w w') : DBigs w' cs := fun c hc => (h c hc).ext e
def DCoinsAt (w : World) (A : Option Addr) (cs : List Co) : Prop := RecAt w A (cs.map Co.pair) ∧ DBigs w cs
theorem DCoinsAt.ext {w w' : World} {A : Option Addr} {cs : List Co} (h : DCoinsAt w A cs) (e : Ext w w') : DCoinsAt w' A cs := ⟨h.1.ext e, h.2.ext e⟩
/-- Decimal coins in a row of the call's own. -/
def DCoinsOwn (w : World) (base : Nat) (v : Value) (cs : List Co) : Prop := w.ownsRow base 118 2 v cs.length (flat2 (cs.map Co.pair)) ∧ DBigs w cs
theorem DCoinsOwn.nil (w : World) (base : Nat) : DCoinsOwn w base (.slice none 0 0) [] := ⟨World.ownsRow_nil _ _ _ _, fun _ h => by cases h⟩
theorem DCoinsOwn.ext {w w' : World} {base : Nat} {v : Value} {cs : List Co} (h : DCoinsOwn w base v cs) (e : Ext w w') : DCoinsOwn w' base v cs := ⟨owns_ext h.1 e, h.2.ext e⟩
theorem BigK.grown {w w' : World} {b : Nat} {z : Int} {base n : Nat} {E : TypeId} {k : Nat} {v : Value} {xs : List Value} (h : BigK w b z) (ho : w.ownsRow base E k v n xs) (hg : w.grownBy w' v.ownBlock) (h1 : 167 ≠ E := by decide) (h2 : 126 ≠ E := by decide) : BigK w' b z := by
  rcases ho.2 with ⟨rfl, _⟩ | ⟨g, cap, cur, rfl, _, hh, _⟩
  · exact h.ext ⟨hg.os, hg.tape, hg.output, hg.size, fun i hi => hg.block i hi (by simp [Value.ownBlock])⟩
  · have hb : Blk w g E cur.toList := hh
    obtain ⟨x, c, hv⟩ := h
    exact ⟨x, c, hv.only (j := g) hg hb h1 h2⟩
/-- One decimal coin more in a row of the call's own. -/
theorem dcoins_push {w w1 w2 : World} {v v' : Value} {cs : List Co} {s : ByteArray} {b : Nat} {z : Int} (h : DCoinsOwn w1 w.heap.size v cs) (hB : BigK w1 b z) (e : Ext w w1)
    (hown : w2.ownsRow w.heap.size 118 2 v' (cs.length + 1) (flat2 (cs.map Co.pair) ++ [.string s, .pointer (some ⟨b, 0, none⟩)])) (hg : w1.grownBy w2 v.ownBlock) :
    DCoinsOwn w2 w.heap.size v' (cs ++ [⟨s, b, z⟩]) ∧ Ext w w2 := by
  refine ⟨⟨?_, fun c hc => ?_⟩, ext_grown e h.1 hg⟩
  · rw [List.length_append, List.map_append, flat2_append]; exact hown
  · rcases List.mem_append.1 hc with hc | hc
    · exact (h.2 c hc).grown h.1 hg
    · simp at hc; subst hc; exact hB.grown h.1 hg
theorem infoDCoin : (Tryz.prog.info? 118).map (fun i => (i.zero, i.size, i.bytes)) = some (some (.agg #[.string ByteArray.empty, .pointer none]), 2, 24) := by kernel_rfl
theorem infoDPlan : (Tryz.prog.info? 48).map (fun i => (i.zero, i.size, i.bytes)) = some (some (.agg #[.string ByteArray.empty, .int .i64 0, .int .i64 0]), 3, 32) := by kernel_rfl
/-- Decimal coins handed back. -/
def RetDCoins (l : List (ByteArray × Int)) (w : World) (e : Ending) (w' : World) : Prop :=
  ∃ v cs, e = .returned v ∧ cs.map Co.val = l ∧ DCoinsOwn w' w.heap.size v cs ∧ Ext w w'

set_option maxRecDepth 100000 in
set_option maxHeartbeats 400000 in
theorem iDecCoins (A : Option Addr) (n c : Nat) (l : List DP) (w : World) (hl : l.length = n) (hn : n ≤ 1000000) (h : DPlainAt w A l) (hz : ∀ x ∈ l, DecB x.2.1 x.2.2) (hT : Thr w) :
    Calls Tryz.prog 47 #[.slice A n c] w (RetDCoins (l.map dval) w) := by
  obtain ⟨i0, hi, hz0, hz1, hz2⟩ := info_parts infoDCoin
  have HL := Lib.hid hl; have HP := Lib.hid h; have HZ := Lib.hid hz; have TT := Lib.hid hT
  clear hl h hz hT
  go_enter Tryz.func47, Tryz.ntmps47
  go_wp2
  go_loopw [3, 8] (fun v i wr => ∃ (k : Nat) (cs : List Co), k ≤ n ∧ i = .int .i64 k ∧ cs.length = k ∧ cs.map Co.val = (l.map dval).take k ∧ DCoinsOwn wr w.heap.size v cs ∧ Ext w wr) (fun _ i _ => n - (intOf i).toNat)
  case atStart => exact ⟨0, [], Nat.zero_le _, rfl, rfl, rfl, DCoinsOwn.nil _ _, Ext.refl _⟩
  case round =>
    obtain ⟨k, cs, hk, rfl, hcl, hcv, hown, hE⟩ := hrel
    have HC := Lib.hid hcl; have HV := Lib.hid hcv; have HO := Lib.hid hown; have HE := Lib.hid hE
    clear hcl hcv hown hE
    by_cases hlt : k < n
    · have hkl : k < l.length := by rw [HL.out]; exact hlt
      obtain ⟨s, hs⟩ : ∃ s, s = l[k].1 := ⟨_, rfl⟩
      obtain ⟨x, hxx⟩ : ∃ x, x = l[k].2.1 := ⟨_, rfl⟩
      obtain ⟨y, hyy⟩ : ∃ y, y = l[k].2.2 := ⟨_, rfl⟩
      obtain ⟨z, hzz⟩ : ∃ z, z = decV x y := ⟨_, rfl⟩
      have HD := Lib.hid (show DecB x y by rw [hxx, hyy]; exact HZ.out _ (List.getElem_mem _))
      obtain ⟨g, o, hA, hc⟩ := HP.out (by intro e; have := congrArg List.length e; simp at this; rw [this] at hkl; simp at hkl)
      subst hA
      have hck := hc k (by simpa using hkl)
      have cs0 : wr.cell? ⟨g, o + k * 3, none⟩ = some (.string s) := HE.out.cell' (by rw [hck.1, hs]; simp [dplain])
      have cs1 : wr.cell? ⟨g, o + k * 3 + 1, none⟩ = some (.int .i64 x) := HE.out.cell' (by rw [hck.2.1, hxx]; simp [dplain])
      have cs2 : wr.cell? ⟨g, o + k * 3 + 2, none⟩ = some (.int .i64 y) := HE.out.cell' (by rw [hck.2.2, hyy]; simp [dplain])
      have HS := Lib.hid (show dval l[k] = (s, z) by rw [hs, hzz, hxx, hyy]; rfl); have HZZ := Lib.hid hzz; clear hs hzz hxx hyy hck hc
      go_wp2_with (first | (go_at_call 82; refine (iDecCoin s x y _ HD.out (TT.out.ext (HE.out.trans' (ext1 _ _)))).mono ?_; rw [← HZZ.out]; rintro e w1 ⟨b, rfl, hB, hE1⟩; have HB := Lib.hid hB.k; have HE1 := Lib.hid ((ext1 _ _).trans' hE1); clear hB hE1) | (at_builtin; refine wpList_append_own_at _ rfl (.tmp 12) (.tmp 15) 79 rfl w.heap.size 118 i0 _ 2 24 Tryz.underlying79 hi hz0 hz1 hz2 rfl (by decide) u3 cs.length (flat2 (cs.map Co.pair)) rfl (owns_ext (HO.out.ext HE1.out).1 (ext1 _ _)) ⟨w1.heap.size, 0, none⟩ 1 1 [.string s, .pointer (some ⟨b, 0, none⟩)] rfl rfl (cell_two_new _ _ _ _) (two_one _ _ rfl rfl) (by rw [HC.out]; unfold maxLen; omega) (by rw [HC.out]; omega) (by have := HE.out.size; have := HE1.out.size; simp; omega) ?_; intro v' w2 hown hgrow _ _; have R := Lib.hid (dcoins_push ((HO.out.ext HE1.out).ext (ext1 _ (dcBox s b))) (HB.out.ext (ext1 _ _)) ((HE.out.trans' HE1.out).trans' (ext1 _ _)) hown hgrow); clear hown hgrow))
      go_roundw
      case rel =>
        refine ⟨k + 1, cs ++ [⟨s, b, z⟩], by omega, by go_num, by simp [HC.out], ?_, R.out.1, R.out.2⟩
        rw [List.map_append, HV.out, List.take_succ_eq_append_getElem (by simpa using hkl), List.getElem_map, HS.out]; rfl
      case measure => simp [intOf]; omega
    · obtain rfl : k = n := by omega
      go_wp2
      go_ret
      exact ⟨_, cs, rfl, by rw [HV.out, List.take_of_length_le (by rw [List.length_map, HL.out]; exact Nat.le_refl _)], HO.out, HE.out⟩
end Go.Proofs.YtcoffndnfaemoaaGreatDoor

namespace Go.Proofs.YtcoffndnfaemoaaGreatDoor
open Go Go.RowKit

/-- A bool handed back that, if true, tells this. -/
def RetIfD (p : Prop) (w : World) (e : Ending) (w' : World) : Prop := ∃ r : Bool, e = .returned (.bool r) ∧ (r = true → p) ∧ Ext w w'

set_option maxRecDepth 100000 in
theorem zFits4 (s : ByteArray) (y z : Int) (w : World) : Calls Tryz.prog 43 #[dpV s y z] w (RetE (.bool (decide (s.size ≤ 2147483647))) w) := by
  by_cases h1 : 2147483647 < s.size
  · have d1 : decide (2147483647 < s.size) = true := by simpa using h1
    have F := Lib.hid (show decide (s.size ≤ 2147483647) = false by simp; omega)
    go_enter Tryz.func43, Tryz.ntmps43
    go_wp2
    go_ret
    rw [F.out]; exact ⟨rfl, ext1 _ _⟩
  · have d1 : decide (2147483647 < s.size) = false := by simpa using h1
    have F := Lib.hid (show decide (s.size ≤ 2147483647) = true by simp; omega)
    go_enter Tryz.func43, Tryz.ntmps43
    go_wp2
    go_ret
    rw [F.out]; exact ⟨rfl, ext1 _ _⟩

/-- What zzFits3 tells. -/
def FitsD (n : Nat) (l : List DP) : Prop := n ≤ 2147483647 ∧ ∀ x ∈ l, x.1.size ≤ 2147483647

set_option maxRecDepth 100000 in
set_option maxHeartbeats 1000000 in
theorem zFits3 (A : Option Addr) (n c : Nat) (l : List DP) (w : World) (hl : l.length = n) (hn : n ≤ 9223372036854775807) (h : DPlainAt w A l) :
    Calls Tryz.prog 11 #[.slice A n c] w (RetIfD (FitsD n l) w) := by
  have HL := Lib.hid hl; have HP := Lib.hid h
  clear hl h
  by_cases h1 : 2147483647 < n
  · have d1 : decide ((2147483647 : Int) < (n : Int)) = true := by simp; omega
    go_enter Tryz.func11, Tryz.ntmps11
    go_wp2
    go_ret
    exact ⟨false, rfl, (fun h => by cases h), Ext.refl _⟩
  · have d1 : decide ((2147483647 : Int) < (n : Int)) = false := by simp; omega
    go_enter Tryz.func11, Tryz.ntmps11
    go_wp2
    go_loopw [10] (fun i wr => ∃ k : Nat, k ≤ n ∧ i = .int .i64 k ∧ (∀ x ∈ l.take k, x.1.size ≤ 2147483647) ∧ Ext w wr) (fun i _ => n - (intOf i).toNat)
    case atStart => exact ⟨0, Nat.zero_le _, rfl, (fun x hx => by simp at hx), Ext.refl _⟩
    case round =>
      obtain ⟨k, hk, rfl, hq, hE⟩ := hrel
      have HQ := Lib.hid hq; have HE := Lib.hid hE
      clear hq hE
      by_cases hlt : k < n
      · have hkl : k < l.length := by rw [HL.out]; exact hlt
        obtain ⟨s, hs⟩ : ∃ s, s = l[k].1 := ⟨_, rfl⟩
        obtain ⟨y, hyy⟩ : ∃ y, y = l[k].2.1 := ⟨_, rfl⟩
        obtain ⟨z, hzz⟩ : ∃ z, z = l[k].2.2 := ⟨_, rfl⟩
        obtain ⟨g, o, hA, hc⟩ := HP.out (by intro e; have := congrArg List.length e; simp at this; rw [this] at hkl; simp at hkl)
        subst hA
        have hck := hc k (by simpa using hkl)
        have cs0 : wr.cell? ⟨g, o + k * 3, none⟩ = some (.string s) := HE.out.cell' (by rw [hck.1, hs]; simp [dplain])
        have cs1 : wr.cell? ⟨g, o + k * 3 + 1, none⟩ = some (.int .i64 y) := HE.out.cell' (by rw [hck.2.1, hyy]; simp [dplain])
        have cs2 : wr.cell? ⟨g, o + k * 3 + 2, none⟩ = some (.int .i64 z) := HE.out.cell' (by rw [hck.2.2, hzz]; simp [dplain])
        have HS := Lib.hid hs; clear hs hyy hzz hck hc
        obtain ⟨r, hr⟩ : ∃ r, r = decide (s.size ≤ 2147483647) := ⟨_, rfl⟩
        have HF := Lib.hid (fun W : World => zFits4 s y z W)
        rw [← hr] at HF
        have HR := Lib.hid hr; clear hr
        cases r
        · go_wp2_with (first | (go_at_call 43; (with_reducible refine (HF.out _).mono ?_); rintro e w1 ⟨rfl, hE1⟩; have HE1 := Lib.hid ((ext1 _ _).trans' hE1); clear hE1))
          go_ret
          exact ⟨false, rfl, (fun h => by cases h), HE.out.trans' HE1.out⟩
        · go_wp2_with (first | (go_at_call 43; (with_reducible refine (HF.out _).mono ?_); rintro e w1 ⟨rfl, hE1⟩; have HE1 := Lib.hid ((ext1 _ _).trans' hE1); clear hE1))
          go_roundw
          case rel =>
            refine ⟨k + 1, by omega, by go_num, fun x hx => ?_, HE.out.trans' HE1.out⟩
            rw [List.take_succ_eq_append_getElem hkl, List.mem_append, List.mem_singleton] at hx
            rcases hx with hx | rfl
            · exact HQ.out x hx
            · rw [← HS.out]; simpa using HR.out.symm
          case measure => simp [intOf]; omega
      · obtain rfl : k = n := by omega
        go_wp2
        go_ret
        exact ⟨true, rfl, (fun _ => ⟨by omega, fun x hx => HQ.out x (by rw [List.take_of_length_le (by rw [HL.out]; exact Nat.le_refl _)]; exact hx)⟩), HE.out⟩

/-- deciIs. -/
def decisB (y z : Int) : Bool := decide (-1000000000000 ≤ y ∧ y ≤ 1000000000000 ∧ -1000000000000000000 < z ∧ z < 1000000000000000000)
/-- The narrow bounds of deciIs; DecB's are wider, so that sums of two are among them. -/
def DecN (whole frac : Int) : Prop := (-1000000000000 ≤ whole ∧ whole ≤ 1000000000000) ∧ (-1000000000000000000 < frac ∧ frac < 1000000000000000000)
theorem decN_iff {y z : Int} : decisB y z = true ↔ DecN y z := by
  unfold decisB DecN; rw [decide_eq_true_iff]
  exact ⟨fun ⟨a, b, c, d⟩ => ⟨⟨a, b⟩, c, d⟩, fun ⟨⟨a, b⟩, c, d⟩ => ⟨a, b, c, d⟩⟩
theorem DecN.decB {y z : Int} (h : DecN y z) : DecB y z := by
  obtain ⟨⟨h1, h2⟩, h3, h4⟩ := h
  exact ⟨⟨by omega, by omega⟩, h3, h4⟩
theorem decisB_iff {y z : Int} (h : decisB y z = true) : DecB y z := (decN_iff.1 h).decB

set_option maxRecDepth 100000 in
theorem dIs (y z : Int) (w : World) : Calls Tryz.prog 13 #[.agg #[.int .i64 y, .int .i64 z]] w (RetE (.bool (decisB y z)) w) := by
  by_cases h1 : -1000000000000 ≤ y
  · by_cases h2 : y ≤ 1000000000000
    · by_cases h3 : -1000000000000000000 < z
      · by_cases h4 : z < 1000000000000000000
        · have F := Lib.hid (show decisB y z = true by unfold decisB; rw [decide_eq_true_iff]; omega)
          go_enter Tryz.func13, Tryz.ntmps13
          go_wp2
          go_ret
          rw [F.out]; exact ⟨rfl, ext1 _ _⟩
        · have F := Lib.hid (show decisB y z = false by unfold decisB; rw [decide_eq_false_iff_not]; omega)
          go_enter Tryz.func13, Tryz.ntmps13
          go_wp2
          go_ret
          rw [F.out]; exact ⟨rfl, ext1 _ _⟩
      · have F := Lib.hid (show decisB y z = false by unfold decisB; rw [decide_eq_false_iff_not]; omega)
        go_enter Tryz.func13, Tryz.ntmps13
        go_wp2
        go_ret
        rw [F.out]; exact ⟨rfl, ext1 _ _⟩
    · have F := Lib.hid (show decisB y z = false by unfold decisB; rw [decide_eq_false_iff_not]; omega)
      go_enter Tryz.func13, Tryz.ntmps13
      go_wp2
      go_ret
      rw [F.out]; exact ⟨rfl, ext1 _ _⟩
  · have F := Lib.hid (show decisB y z = false by unfold decisB; rw [decide_eq_false_iff_not]; omega)
    go_enter Tryz.func13, Tryz.ntmps13
    go_wp2
    go_ret
    rw [F.out]; exact ⟨rfl, ext1 _ _⟩

/-- deciFew. -/
def fewB (l : List DP) : Bool := decide (l.length ≤ 12 ∧ ∀ x ∈ l, x.1.size ≤ 130 ∧ decisB x.2.1 x.2.2 = true)
theorem fewB_false {l : List DP} {x : DP} (hx : x ∈ l) (h : ¬ (x.1.size ≤ 130 ∧ decisB x.2.1 x.2.2 = true)) : fewB l = false := by
  unfold fewB; rw [decide_eq_false_iff_not]; rintro ⟨_, k⟩; exact h (k x hx)
theorem fewB_memN {l : List DP} (h : fewB l = true) : l.length ≤ 12 ∧ ∀ x ∈ l, x.1.size ≤ 130 ∧ DecN x.2.1 x.2.2 := by
  unfold fewB at h; rw [decide_eq_true_iff] at h
  exact ⟨h.1, fun x hx => ⟨(h.2 x hx).1, decN_iff.1 (h.2 x hx).2⟩⟩
theorem fewB_mem {l : List DP} (h : fewB l = true) : l.length ≤ 12 ∧ ∀ x ∈ l, x.1.size ≤ 130 ∧ DecB x.2.1 x.2.2 :=
  ⟨(fewB_memN h).1, fun x hx => ⟨((fewB_memN h).2 x hx).1, ((fewB_memN h).2 x hx).2.decB⟩⟩

set_option maxRecDepth 100000 in
set_option maxHeartbeats 1000000 in
theorem dFew (A : Option Addr) (n c : Nat) (l : List DP) (w : World) (hl : l.length = n) (hn : n ≤ 9223372036854775807) (h : DPlainAt w A l) :
    Calls Tryz.prog 23 #[.slice A n c] w (RetE (.bool (fewB l)) w) := by
  have HL := Lib.hid hl; have HP := Lib.hid h
  clear hl h
  by_cases h1 : 12 < n
  · have d1 : decide ((12 : Int) < (n : Int)) = true := by simp; omega
    have F := Lib.hid (show fewB l = false by unfold fewB; rw [decide_eq_false_iff_not]; rintro ⟨k, _⟩; have := HL.out; omega)
    go_enter Tryz.func23, Tryz.ntmps23
    go_wp2
    go_ret
    rw [F.out]; exact ⟨rfl, Ext.refl _⟩
  · have d1 : decide ((12 : Int) < (n : Int)) = false := by simp; omega
    go_enter Tryz.func23, Tryz.ntmps23
    go_wp2
    go_loopw [10] (fun i wr => ∃ k : Nat, k ≤ n ∧ i = .int .i64 k ∧ (∀ x ∈ l.take k, x.1.size ≤ 130 ∧ decisB x.2.1 x.2.2 = true) ∧ Ext w wr) (fun i _ => n - (intOf i).toNat)
    case atStart => exact ⟨0, Nat.zero_le _, rfl, (fun x hx => by simp at hx), Ext.refl _⟩
    case round =>
      obtain ⟨k, hk, rfl, hq, hE⟩ := hrel
      have HQ := Lib.hid hq; have HE := Lib.hid hE
      clear hq hE
      by_cases hlt : k < n
      · have hkl : k < l.length := by rw [HL.out]; exact hlt
        obtain ⟨s, hs⟩ : ∃ s, s = l[k].1 := ⟨_, rfl⟩
        obtain ⟨y, hyy⟩ : ∃ y, y = l[k].2.1 := ⟨_, rfl⟩
        obtain ⟨z, hzz⟩ : ∃ z, z = l[k].2.2 := ⟨_, rfl⟩
        obtain ⟨g, o, hA, hc⟩ := HP.out (by intro e; have := congrArg List.length e; simp at this; rw [this] at hkl; simp at hkl)
        subst hA
        have hck := hc k (by simpa using hkl)
        have cs0 : wr.cell? ⟨g, o + k * 3, none⟩ = some (.string s) := HE.out.cell' (by rw [hck.1, hs]; simp [dplain])
        have cs1 : wr.cell? ⟨g, o + k * 3 + 1, none⟩ = some (.int .i64 y) := HE.out.cell' (by rw [hck.2.1, hyy]; simp [dplain])
        have cs2 : wr.cell? ⟨g, o + k * 3 + 2, none⟩ = some (.int .i64 z) := HE.out.cell' (by rw [hck.2.2, hzz]; simp [dplain])
        have HM := Lib.hid (List.getElem_mem hkl)
        have bad := Lib.hid (fun (hb : ¬ (s.size ≤ 130 ∧ decisB y z = true)) => fewB_false HM.out (by rw [← hs, ← hyy, ← hzz]; exact hb))
        have good := Lib.hid (fun (hb : s.size ≤ 130 ∧ decisB y z = true) => show (∀ x ∈ l.take (k + 1), x.1.size ≤ 130 ∧ decisB x.2.1 x.2.2 = true) from fun x hx => by
          rw [List.take_succ_eq_append_getElem hkl, List.mem_append, List.mem_singleton] at hx
          rcases hx with hx | rfl
          · exact HQ.out x hx
          · rw [← hs, ← hyy, ← hzz]; exact hb)
        clear hs hyy hzz hck hc
        by_cases h2 : 130 < s.size
        · have d2 : decide (130 < s.size) = true := by simpa using h2
          have F := Lib.hid (bad.out (by omega))
          go_wp2
          go_ret
          rw [F.out]; exact ⟨rfl, HE.out.trans' (ext1 _ _)⟩
        · have d2 : decide (130 < s.size) = false := by simpa using h2
          have HD := Lib.hid (fun W : World => dIs y z W)
          obtain ⟨r, hr⟩ : ∃ r, r = decisB y z := ⟨_, rfl⟩
          rw [← hr] at HD
          rw [← hr] at bad good
          have HR := Lib.hid hr; clear hr
          cases r
          · have F := Lib.hid (bad.out (by simp))
            go_wp2_with (first | (go_at_call 13; (with_reducible refine (HD.out _).mono ?_); rintro e w1 ⟨rfl, hE1⟩; have HE1 := Lib.hid ((ext1 _ _).trans' hE1); clear hE1))
            go_ret
            rw [F.out]; exact ⟨rfl, HE.out.trans' HE1.out⟩
          · have F := Lib.hid (good.out ⟨by omega, rfl⟩)
            go_wp2_with (first | (go_at_call 13; (with_reducible refine (HD.out _).mono ?_); rintro e w1 ⟨rfl, hE1⟩; have HE1 := Lib.hid ((ext1 _ _).trans' hE1); clear hE1))
            go_roundw
            case rel => exact ⟨k + 1, by omega, by go_num, F.out, HE.out.trans' HE1.out⟩
            case measure => simp [intOf]; omega
      · obtain rfl : k = n := by omega
        have F := Lib.hid (show fewB l = true by
          unfold fewB; rw [decide_eq_true_iff]
          exact ⟨by rw [HL.out]; omega, fun x hx => HQ.out x (by rw [List.take_of_length_le (by rw [HL.out]; exact Nat.le_refl _)]; exact hx)⟩)
        go_wp2
        go_ret
        rw [F.out]; exact ⟨rfl, HE.out⟩
end Go.Proofs.YtcoffndnfaemoaaGreatDoor

namespace Go.Proofs.YtcoffndnfaemoaaGreatDoor
open Go Go.RowKit

/-- Decimal coins without those of nothing. -/
def dnz (l : List Co) : List Co := l.filter fun x => decide (x.z ≠ 0)
/-- Decimal coins in a row of the call's own handed back. -/
def RetDOwn (L : List Co) (w : World) (e : Ending) (w' : World) : Prop := ∃ v, e = .returned v ∧ DCoinsOwn w' w.heap.size v L ∧ Ext w w'
theorem dext_none {a b : World} (h : a.grownBy b none) : Ext a b := ⟨h.os, h.tape, h.output, h.size, fun i hi => h.block i hi (by simp)⟩
theorem dsgn_zero (z : Int) : (sgn z == 0) = decide (z = 0) := by
  unfold sgn
  by_cases h1 : z < 0
  · rw [if_pos h1]; have : z ≠ 0 := by omega
    simp [this]
  · rw [if_neg h1]
    by_cases h2 : 0 < z
    · rw [if_pos h2]; have : z ≠ 0 := by omega
      simp [this]
    · rw [if_neg h2]; have : z = 0 := by omega
      simp [this]

set_option maxRecDepth 100000 in
set_option maxHeartbeats 1000000 in
theorem tdRemoveZero (A : Option Addr) (n c : Nat) (l : List Co) (w : World) (hl : l.length = n) (hn : n ≤ 100000) (h : DCoinsAt w A l) :
    Calls Tryz.prog 160 #[.slice A n c] w (RetDOwn (dnz l) w) := by
  obtain ⟨i0, hi, hz0, hz1, hz2⟩ := info_parts infoDCoin
  have HL := Lib.hid hl; have HP := Lib.hid h
  clear hl h
  go_enter Tryz.func160, Tryz.ntmps160
  go_wp2_with (first | (at_make; refine wpList_make_own _ rfl _ _ 78 rfl w.heap.size 118 i0 _ 2 Tryz.underlying78 hi hz0 hz1 .i64 .i64 (n : Int) n rfl rfl rfl (by rw [hz2]; omega) (by unfold maxLen; omega) (Nat.le_refl _) ?_; intro w0 hown0 hg0; have HO0 := Lib.hid (show DCoinsOwn w0 w.heap.size _ [] from ⟨hown0, fun _ h => by cases h⟩); have HE0 := Lib.hid (dext_none hg0); clear hown0 hg0))
  go_loopw [3, 11] (fun v i wr => ∃ (k : Nat) (cs : List Co), k ≤ n ∧ i = .int .i64 k ∧ cs.length ≤ k ∧ cs = dnz (l.take k) ∧ DCoinsOwn wr w.heap.size v cs ∧ Ext w wr) (fun _ i _ => n - (intOf i).toNat)
  case atStart => exact ⟨0, [], Nat.zero_le _, rfl, Nat.le_refl _, rfl, HO0.out, HE0.out⟩
  case round =>
    obtain ⟨k, cs, hk, rfl, hcl, hcv, hown, hE⟩ := hrel
    have HC := Lib.hid hcl; have HV := Lib.hid hcv; have HO := Lib.hid hown; have HE := Lib.hid hE
    clear hcl hcv hown hE HO0
    by_cases hlt : k < n
    · have hkl : k < l.length := by rw [HL.out]; exact hlt
      obtain ⟨s, hs⟩ : ∃ s, s = l[k].s := ⟨_, rfl⟩
      obtain ⟨b, hb⟩ : ∃ b, b = l[k].b := ⟨_, rfl⟩
      obtain ⟨z, hzz⟩ : ∃ z, z = l[k].z := ⟨_, rfl⟩
      obtain ⟨g, o, hA, hc⟩ := HP.out.1 (by intro e; have := congrArg List.length e; simp at this; rw [this] at hkl; simp at hkl)
      subst hA
      have hck := hc k (by simpa using hkl)
      have cs0 : wr.cell? ⟨g, o + k * 2, none⟩ = some (.string s) := HE.out.cell' (by rw [hck.1, hs]; simp [Co.pair])
      have cs1 : wr.cell? ⟨g, o + k * 2 + 1, none⟩ = some (.pointer (some ⟨b, 0, none⟩)) := HE.out.cell' (by rw [hck.2, hb]; simp [Co.pair])
      have HB := Lib.hid (show BigK wr b z by rw [hb, hzz]; exact (HP.out.2 _ (List.getElem_mem hkl)).ext HE.out)
      have HX := Lib.hid (show l[k] = ⟨s, b, z⟩ by rw [hs, hb, hzz])
      clear hs hb hzz hck hc
      have HT := Lib.hid (tdIsZero s b z _ (HB.out.ext (Ext.alloc' wr (dcBox s b))))
      rw [dsgn_zero] at HT
      by_cases h0 : z = 0
      · rw [decide_eq_true h0] at HT
        have H0 := Lib.hid h0; clear h0
        go_wp2_with (first | (go_at_call 84; (with_reducible refine HT.out.mono ?_); rintro e w1 ⟨rfl, hE⟩; have HE1 := Lib.hid ((Ext.alloc' _ _).trans' hE); clear hE))
        go_roundw
        case rel =>
          refine ⟨k + 1, cs, by omega, by go_num, by have := HC.out; omega, ?_, HO.out.ext HE1.out, HE.out.trans' HE1.out⟩
          unfold dnz at HV ⊢
          rw [List.take_succ_eq_append_getElem hkl, List.filter_append, HX.out, ← HV.out]; simp [H0.out]
        case measure => simp [intOf]; omega
      · rw [decide_eq_false h0] at HT
        have H0 := Lib.hid h0; clear h0
        go_wp2_with (first | (go_at_call 84; (with_reducible refine HT.out.mono ?_); rintro e w1 ⟨rfl, hE⟩; have kb := (blk_new0 wr 118 [.string s, .pointer (some ⟨b, 0, none⟩)]).ext hE; have c0 : w1.cell? ⟨wr.heap.size, 0, none⟩ = some (.string s) := (kb.cell 0).trans rfl; have c1 : w1.cell? ⟨wr.heap.size, 1, none⟩ = some (.pointer (some ⟨b, 0, none⟩)) := (kb.cell 1).trans rfl; have HE1 := Lib.hid ((Ext.alloc' _ _).trans' hE); clear hE kb) | (at_builtin; refine wpList_append_own_at _ rfl (.tmp 18) (.tmp 20) 78 rfl w.heap.size 118 i0 _ 2 24 Tryz.underlying78 hi hz0 hz1 hz2 rfl (by decide) u3 cs.length (flat2 (cs.map Co.pair)) rfl (owns_ext (HO.out.ext HE1.out).1 (ext1 _ _)) ⟨w1.heap.size, 0, none⟩ 1 1 [.string s, .pointer (some ⟨b, 0, none⟩)] rfl rfl (cell_two_new _ _ _ _) (two_one _ _ rfl rfl) (by have := HC.out; unfold maxLen; omega) (by have := HC.out; omega) (by have := HE.out.size; have := HE1.out.size; simp; omega) ?_; intro v' w2 hown hgrow _ _; have R := Lib.hid (dcoins_push ((HO.out.ext HE1.out).ext (ext1 _ _)) ((HB.out.ext HE1.out).ext (ext1 _ _)) ((HE.out.trans' HE1.out).trans' (ext1 _ _)) hown hgrow); clear hown hgrow))
        go_roundw
        case rel =>
          refine ⟨k + 1, cs ++ [⟨s, b, z⟩], by omega, by go_num, by have := HC.out; simp; omega, ?_, R.out.1, R.out.2⟩
          unfold dnz at HV ⊢
          rw [List.take_succ_eq_append_getElem hkl, List.filter_append, HX.out, ← HV.out]; simp [H0.out]
        case measure => simp [intOf]; omega
    · obtain rfl : k = n := by omega
      go_wp2
      go_ret
      have hv : cs = dnz l := by rw [HV.out, List.take_of_length_le (by rw [HL.out]; exact Nat.le_refl _)]
      exact ⟨_, rfl, hv ▸ HO.out, HE.out⟩

end Go.Proofs.YtcoffndnfaemoaaGreatDoor

namespace Go.Proofs.YtcoffndnfaemoaaGreatDoor
open Go Go.RowKit

theorem dflat2_all {Q : Nat → Value → Prop} (ps : List (Value × Value)) (h : ∀ j (hj : j < ps.length), Q (j * 2) ps[j].1 ∧ Q (j * 2 + 1) ps[j].2) : ∀ i u, (flat2 ps)[i]? = some u → Q i u := by
  intro i u hu
  have hi : i < (flat2 ps).length := (List.getElem?_eq_some_iff.1 hu).1
  rw [flat2_length] at hi
  have hj : i / 2 < ps.length := by omega
  obtain ⟨h1, h2⟩ := flat2_get ps (i / 2) hj
  obtain ⟨q1, q2⟩ := h (i / 2) hj
  rcases Nat.mod_two_eq_zero_or_one i with e | e
  · have : i / 2 * 2 = i := by omega
    rw [this] at h1 q1
    rw [h1] at hu; injection hu with hu; rw [← hu]; exact q1
  · have : i / 2 * 2 + 1 = i := by omega
    rw [this] at h2 q2
    rw [h2] at hu; injection hu with hu; rw [← hu]; exact q2
theorem down_cap {w : World} {base n k : Nat} {E : TypeId} {v : Value} {xs : List Value} (h : w.ownsRow base E k v n xs) : ∃ A c, v = .slice A n c ∧ n ≤ c := by
  rcases h.2 with ⟨rfl, rfl⟩ | ⟨g, cap, _, rfl, _, _, hn, _⟩
  · exact ⟨_, _, rfl, Nat.le_refl _⟩
  · exact ⟨_, _, rfl, hn⟩
theorem pair_one (l : List Co) : ∀ u ∈ flat2 (l.map Co.pair), u.oneCell' = true := by
  intro u hu
  obtain ⟨p, hp, hu⟩ := List.mem_flatMap.1 hu
  obtain ⟨x, _, rfl⟩ := List.mem_map.1 hp
  simp [Co.pair] at hu
  rcases hu with rfl | rfl <;> rfl
theorem dcoinsAt_own {w : World} {base n c : Nat} {A : Option Addr} {cs : List Co} (h : DCoinsOwn w base (.slice A n c) cs) (hn : cs.length = n) : DCoinsAt w A cs :=
  ⟨recAt_of_owns (by simpa using hn) (hn ▸ h.1), h.2⟩

theorem drun_append_none {P : Program} (w : World) (t ty e : TypeId) (i : TypeInfo) (h1 : P.underlying t = some (.slice e)) (h2 : P.info? e = some i) (a x : Option Addr) (n cap c : Nat) (h : n ≤ cap) :
    (Builtin.append_ #[t, t] ty #[.slice a n cap, .slice x 0 c]).run P w = .ok (.slice a n cap) w := by
  cases a <;> cases x <;> simp [Builtin.append_, run_underlying h1, Go.sizeOf, typeInfo, h2, Result.andThen, Builtin.lenOf, Builtin.firstCells, h, storeCells, loadCells, loadCellsFrom]
theorem append_types {P : Program} (w : World) (t t' ty e : TypeId) (ht : P.underlying t = some (.slice e)) (ht' : P.underlying t' = some (.slice e)) (a : Option Addr) (n c : Nat) (x : Value) :
    (Builtin.append_ #[t, t'] ty #[.slice a n c, x]).run P w = (Builtin.append_ #[t, t] ty #[.slice a n c, x]).run P w := by
  simp [Builtin.append_, run_underlying ht, run_underlying ht', Result.andThen]
theorem wpList_append_dcoins {P : Program} {w : World} {ops : Array Oper} {rest : List Oper} {o : Oper} {a : Act} {Q : Exit → Act → World → Prop} (hw : Region.wanted o (yielded ops a.tmps) = true) (s x : Operand) (t t' : TypeId)
    (ho : o.op = .call { callee := .builtin .append, args := #[s, x], argTypes := #[t, t'] }) (base : Nat) (i : TypeInfo) (z : Value) (ht : P.underlying t = some (.slice 118)) (ht' : P.underlying t' = some (.slice 118)) (hi : P.info? 118 = some i) (hz : i.zero = some z)
    (hsize : i.size = 2) (hby : i.bytes = 24) (hzs : z.cells.size = 2) (v : Value) (l : List Co) (hs : a.eval s = v) (hown : DCoinsOwn w base v l)
    (B : Option Addr) (m c : Nat) (l' : List Co) (hx : a.eval x = .slice B m c) (hm : l'.length = m) (hl' : DCoinsAt w B l') (hle : l.length + m ≤ 1000000) (hbase : base ≤ w.heap.size)
    (h : ∀ v' w', DCoinsOwn w' base v' (l ++ l') → (∀ w0, Ext w0 w → w0.heap.size ≤ base → Ext w0 w') → wpList P ops Q rest (a.put o.dst v') w') :
    wpList P ops Q (o :: rest) a w := by
  by_cases h0 : l' = []
  · subst h0
    obtain rfl : m = 0 := by simpa using hm.symm
    obtain ⟨A, cap, rfl, hcap⟩ := down_cap hown.1
    refine wpList_step fun K hK => ?_
    rw [if_pos hw]
    have hr := drun_append_none (P := P) w t o.type 118 i ht hi A B l.length cap c hcap
    unfold Oper.wp execOp
    simp only [ho, append_types w t t' o.type _ ht ht', resolve, invoke, builtin, Sem.run_bind, Sem.run_pure, Result.andThen_ok, List.map_toArray, List.map_cons, List.map_nil, hs, hx, hr]
    exact hK _ _ (h _ w (by simpa using hown) fun _ e0 _ => e0)
  · obtain ⟨g, of, rfl, hc⟩ := hl'.1 (by simpa using h0)
    have hnews : ∀ j u, (flat2 (l'.map Co.pair))[j]? = some u → w.cell? ((⟨g, of, none⟩ : Addr).add j) = some u := by
      refine dflat2_all (Q := fun i u => w.cell? ((⟨g, of, none⟩ : Addr).add i) = some u) _ fun j hj => ?_
      have hadd : ∀ i, (⟨g, of, none⟩ : Addr).add i = ⟨g, of + i, none⟩ := fun i => by unfold Addr.add; split <;> simp_all
      rw [hadd, hadd]
      exact hc j hj
    refine wpList_step fun K hK => ?_
    rw [if_pos hw]
    obtain ⟨A, cap, rfl, hcap⟩ := down_cap hown.1
    obtain ⟨v', w', hr, h2, h3, _, _⟩ := run_append_own_at (P := P) w base t o.type 118 i z 2 24 ht hi hz hsize hby hzs (by decide) (.slice A l.length cap) l.length (flat2 (l.map Co.pair)) hown.1 ⟨g, of, none⟩ m c (flat2 (l'.map Co.pair)) (by rw [flat2_length]; simp [hm]) hnews (pair_one l') (by unfold maxLen; omega) (by omega) hbase
    unfold Oper.wp execOp
    simp only [ho, append_types w t t' o.type _ ht ht', resolve, invoke, builtin, Sem.run_bind, Sem.run_pure, Result.andThen_ok, List.map_toArray, List.map_cons, List.map_nil, hs, hx, hr]
    refine hK _ _ (h v' w' ⟨?_, fun c hc => ?_⟩ (fun _ e0 hb => Below.grown e0 h3 e0.size (fun g hv => Nat.le_trans hb (hown.1.lt g hv).1)))
    · rw [List.length_append, hm, List.map_append, flat2_append]; exact h2
    · rcases List.mem_append.1 hc with hc | hc
      · exact (hown.2 c hc).grown hown.1 h3
      · exact (hl'.2 c hc).grown hown.1 h3

theorem dcmpS (s t : ByteArray) (W : World) : Calls Tryz.prog 161 #[.string s, .string t] W (fun e w' => e = .returned (.int .i64 (if keyLt s t = true then -1 else if keyLt t s = true then 1 else 0)) ∧ w' = W) := by
  cases h : keyLt s t
  · have hb : Op.bytesLess s.toList t.toList = false := h
    cases h2 : keyLt t s
    · have hb2 : (s.toList == t.toList) = true := by rw [keyLt_tri h h2]; simp
      clear h h2
      go_enter Tryz.func161, Tryz.ntmps161
      go_wp2
      go_ret
      exact ⟨rfl, rfl⟩
    · have hb2 : (s.toList == t.toList) = false := by rw [key_beq]; rw [decide_eq_false_iff_not]; rintro rfl; rw [keyLt_irrefl] at h2; cases h2
      clear h h2
      go_enter Tryz.func161, Tryz.ntmps161
      go_wp2
      go_ret
      exact ⟨rfl, rfl⟩
  · have hb : Op.bytesLess s.toList t.toList = true := h
    clear h
    go_enter Tryz.func161, Tryz.ntmps161
    go_wp2
    go_ret
    exact ⟨rfl, rfl⟩

/-- Values without those of nothing; two lists merged. -/
def vnz (l : List (ByteArray × Int)) : List (ByteArray × Int) := l.filter fun x => decide (x.2 ≠ 0)
def dmrg : List (ByteArray × Int) → List (ByteArray × Int) → List (ByteArray × Int)
  | [], ys => vnz ys
  | x :: xs, [] => vnz (x :: xs)
  | x :: xs, y :: ys => if keyLt x.1 y.1 = true then vnz [x] ++ dmrg xs (y :: ys) else if keyLt y.1 x.1 = true then vnz [y] ++ dmrg (x :: xs) ys else vnz [(x.1, x.2 + y.2)] ++ dmrg xs ys
termination_by xs ys => xs.length + ys.length
theorem dmrg_nil (l : List (ByteArray × Int)) : dmrg l [] = vnz l := by cases l <;> simp [dmrg, vnz]
theorem dmrg_nil' (l : List (ByteArray × Int)) : dmrg [] l = vnz l := by simp [dmrg]
theorem dmrg_cons (x y : ByteArray × Int) (xs ys : List (ByteArray × Int)) : dmrg (x :: xs) (y :: ys) = if keyLt x.1 y.1 = true then vnz [x] ++ dmrg xs (y :: ys) else if keyLt y.1 x.1 = true then vnz [y] ++ dmrg (x :: xs) ys else vnz [(x.1, x.2 + y.2)] ++ dmrg xs ys := by
  rw [dmrg]
theorem dnz_val (L : List Co) : (dnz L).map Co.val = vnz (L.map Co.val) := by
  unfold dnz vnz
  rw [List.filter_map]; rfl
theorem RecAt.drop {w : World} {g o : Nat} {ps : List (Value × Value)} (h : RecAt w (some ⟨g, o, none⟩) ps) (j : Nat) : RecAt w (some ⟨g, o + j * 2, none⟩) (ps.drop j) := fun hn => by
  have hl : j < ps.length := by
    by_cases h0 : j < ps.length
    · exact h0
    · exact absurd (List.drop_of_length_le (by omega)) hn
  obtain ⟨g', o', ha, hc⟩ := h (by rintro rfl; simp at hl)
  injection ha with ha; injection ha with h1 h2; subst h1; subst h2
  refine ⟨g, o + j * 2, rfl, fun k hk => ?_⟩
  have hk' : j + k < ps.length := by simp at hk; omega
  have := hc (j + k) hk'
  rw [show o + j * 2 + k * 2 = o + (j + k) * 2 by omega]
  simpa using this
theorem DCoinsAt.drop {w : World} {g o : Nat} {L : List Co} (h : DCoinsAt w (some ⟨g, o, none⟩) L) (j : Nat) : DCoinsAt w (some ⟨g, o + j * 2, none⟩) (L.drop j) :=
  ⟨by rw [List.map_drop]; exact h.1.drop j, fun c hc => h.2 c (List.mem_of_mem_drop hc)⟩
end Go.Proofs.YtcoffndnfaemoaaGreatDoor
