/-
  The walk of the law FnUnitsBase: it returns true.
-/
import Derived.Test.YtcoffndnfaemoaaGreatDoorRegF
import Derived.Test.YtcoffndnfaemoaaGreatDoorGT
import Derived.Deep.DeepCutAuto
import Derived.Deep.RegionHeld3
import Derived.Deep.AppendLies
import Derived.Deep.RegionLaw
namespace Go.Proofs.YtcoffndnfaemoaaGreatDoor
open Go Go.RowKit

theorem deWordsU {w : World} {g o k : Nat} {s : ByteArray} {z : Int} (h : w.cell? ⟨g, o + k * 6, none⟩ = some (.string s) ∧ w.cell? ⟨g, o + k * 6 + 1, none⟩ = some (.bool (decide (z < 0))) ∧ w.cell? ⟨g, o + k * 6 + 2, none⟩ = some (dw z.natAbs 0) ∧ w.cell? ⟨g, o + k * 6 + 3, none⟩ = some (dw z.natAbs 1) ∧ w.cell? ⟨g, o + k * 6 + 4, none⟩ = some (dw z.natAbs 2) ∧ w.cell? ⟨g, o + k * 6 + 5, none⟩ = some (dw z.natAbs 3)) :
    ∃ (b : Bool) (x0 x1 x2 x3 : Nat), de z = .agg #[.bool b, .int .u64 x0, .int .u64 x1, .int .u64 x2, .int .u64 x3] ∧ w.cell? ⟨g, o + k * 6, none⟩ = some (.string s) ∧ w.cell? ⟨g, o + k * 6 + 1, none⟩ = some (.bool b) ∧ w.cell? ⟨g, o + k * 6 + 2, none⟩ = some (.int .u64 x0) ∧ w.cell? ⟨g, o + k * 6 + 3, none⟩ = some (.int .u64 x1) ∧ w.cell? ⟨g, o + k * 6 + 4, none⟩ = some (.int .u64 x2) ∧ w.cell? ⟨g, o + k * 6 + 5, none⟩ = some (.int .u64 x3) :=
  ⟨_, _, _, _, _, rfl, h⟩
theorem sixU {W : World} {g : Nat} {T : TypeId} {a b c d e f : Value} (h : Blk W g T [a, b, c, d, e, f]) : W.cell? ⟨g, 0, none⟩ = some a ∧ W.cell? ⟨g, 1, none⟩ = some b ∧ W.cell? ⟨g, 2, none⟩ = some c ∧ W.cell? ⟨g, 3, none⟩ = some d ∧ W.cell? ⟨g, 4, none⟩ = some e ∧ W.cell? ⟨g, 5, none⟩ = some f ∧ g < W.heap.size :=
  ⟨(h.cell 0).trans rfl, (h.cell 1).trans rfl, (h.cell 2).trans rfl, (h.cell 3).trans rfl, (h.cell 4).trans rfl, (h.cell 5).trans rfl, h.lt⟩
theorem ubWrap {n : Nat} (h : n ≤ 12) : wrap64 ((n : Int) + 2) = (n : Int) + 2 ∧ wrap64 ((n : Int) + 1) = (n : Int) + 1 ∧ IntKind.i64.wrap ((n : Int) + 2) = (n : Int) + 2 ∧ IntKind.i64.wrap ((n : Int) + 1) = (n : Int) + 1 ∧ ((n : Int) + 1).toNat = n + 1 ∧ ((n : Int) + 1) < (n : Int) + 2 ∧ (0 : Int) ≤ (n : Int) + 1 ∧ n + 1 < n + 2 ∧ (0 : Int) < (n : Int) + 2 ∧ 0 < n + 2 := by
  refine ⟨by unfold wrap64; omega, by unfold wrap64; omega, IntWalk.i64_in _ (by omega), IntWalk.i64_in _ (by omega), by omega, by omega, by omega, by omega, by omega, by omega⟩
theorem ubIdx {m n : Nat} (h : m < n) : (0 : Int) ≤ (m : Int) ∧ (m : Int) < (n : Int) := by omega
theorem rows_apart {w : World} {B B' k k' n n' : Nat} {E E' : TypeId} {v v' : Value} {xs xs' : List Value} (h : w.ownsRow B E k v n xs) (h' : w.ownsRow B' E' k' v' n' xs') (hne : E ≠ E') : v.ownBlock = none ∨ v.ownBlock ≠ v'.ownBlock := by
  rcases h.2 with ⟨rfl, _⟩ | ⟨g, cap, cur, rfl, _, hg, _⟩
  · exact Or.inl rfl
  · refine Or.inr ?_
    rcases h'.2 with ⟨rfl, _⟩ | ⟨g', cap', cur', rfl, _, hg', _⟩
    · simp [Value.ownBlock]
    · intro e
      simp [Value.ownBlock] at e
      subst e
      rw [hg] at hg'
      injection hg' with hg'
      injection hg' with _ e _
      exact hne e
theorem sts_one (W : World) : StsOwn (W.alloc (.cells #[.int .i64 3, .string ⟨#[]⟩, .int .i64 0, .int .i64 0, .string ⟨#[]⟩, .int .i64 0, .string ⟨#[]⟩, .int .i64 0, .int .i64 0, .slice none 0 0] 50)) W.heap.size (.slice (some ⟨W.heap.size, 0, none⟩) 1 1) [base3] :=
  ⟨rfl, Or.inr ⟨W.heap.size, 1, #[.int .i64 3, .string ⟨#[]⟩, .int .i64 0, .int .i64 0, .string ⟨#[]⟩, .int .i64 0, .string ⟨#[]⟩, .int .i64 0, .int .i64 0, .slice none 0 0], rfl, Nat.le_refl _, heap_alloc_new W _, Nat.le_refl _, by decide, rfl, rfl⟩⟩
theorem sts_push {w w1 w2 : World} {v v' : Value} {l : List St} {x : St} (h : StsOwn w1 w.heap.size v l) (e : Ext w w1)
    (hown : w2.ownsRow w.heap.size 50 10 v' (l.length + 1) (flat10 St.cells l ++ x.cells)) (hg : w1.grownBy w2 v.ownBlock) : StsOwn w2 w.heap.size v' (l ++ [x]) ∧ Ext w w2 := by
  refine ⟨?_, ext_grown e h hg⟩
  unfold StsOwn
  rw [List.length_append, flat10_append]
  simpa [flat10] using hown
theorem decV_abs4 {x y : Int} (h : DecB x y) : (decV x y).natAbs < B64 ^ 2 := by
  have := decB_abs h
  unfold decV; omega
theorem stepsK_ok {l : List DP} (h : ∀ x ∈ l, DecB x.2.1 x.2.2) (hs : ∀ x ∈ l, x.1.size ≤ maxLen) : ∀ s ∈ stepsK l ++ [base3], OkSt s := by
  have h3 : OkSt base3 := ⟨Or.inr (Or.inr rfl), by show DecB 0 0; unfold DecB; omega, by decide⟩
  intro s hm
  rcases List.mem_append.1 hm with hm | hm
  · rcases List.mem_cons.1 hm with rfl | hm
    · exact h3
    · obtain ⟨x, hx, rfl⟩ := List.mem_map.1 hm
      exact ⟨Or.inl rfl, h x hx, hs x hx⟩
  · rw [List.mem_singleton] at hm; subst hm; exact h3

set_option maxRecDepth 100000 in
set_option maxHeartbeats 8000000 in
theorem lawUBase (A : Option Addr) (n c : Nat) (l : List DP) (w : World) (hl : l.length = n) (hn : n ≤ 9223372036854775807) (hp : DPlainAt w A l) (hT : Thr w) :
    Calls Tryz.prog 5 #[.slice A n c] w (RetE (.bool true) w) := by
  obtain ⟨i0, hi, hz0, hz1, hz2⟩ := info_parts infoSt
  have HL := Lib.hid hl; have HP := Lib.hid hp; have TW := Lib.hid hT; have HN := Lib.hid hn
  clear hl hp hT
  go_enter Tryz.func5, Tryz.ntmps5
  go_wp2_with (fail)
  go_at_call 11
  refine (zFits3 A n c l _ HL.out HN.out HP.out).mono ?_
  rintro e w1 ⟨r1, rfl, -, hE⟩
  have HE1 := Lib.hid hE; clear hE
  cases r1
  · go_wp2
    go_ret
    exact ⟨rfl, HE1.out⟩
  by_cases h0 : n = 0
  · subst h0
    clear hn
    go_wp2_with (fail)
    go_at_call 24
    refine (rateAwake _ (TW.out.ext HE1.out)).mono ?_
    rintro e w99 ⟨rfl, hE⟩
    have HE99 := Lib.hid ((HE1.out : Ext w _).trans' hE); clear hE
    go_wp2
    go_ret
    exact ⟨rfl, HE99.out⟩
  have e0 : ((n : Int) == 0) = false := by simp; omega
  have HN0 := Lib.hid h0; clear h0 hn
  go_wp2_with (fail)
  go_at_call 23
  refine (dFew A n c l _ HL.out HN.out (HP.out.ext HE1.out)).mono ?_
  obtain ⟨b3, hb3⟩ : ∃ b, b = fewB l := ⟨_, rfl⟩
  rw [← hb3]
  have HB3 := Lib.hid hb3; clear hb3
  rintro e w2 ⟨rfl, hE⟩
  have HE2 := Lib.hid (HE1.out.trans' hE); clear hE
  cases b3
  · skip
    go_wp2_with (fail)
    go_at_call 24
    refine (rateAwake _ (TW.out.ext HE2.out)).mono ?_
    rintro e w99 ⟨rfl, hE⟩
    have HE99 := Lib.hid ((HE2.out : Ext w _).trans' hE); clear hE
    go_wp2
    go_ret
    exact ⟨rfl, HE99.out⟩
  have HF := Lib.hid (fewB_mem HB3.out.symm)
  have hn12 : n ≤ 12 := by rw [← HL.out]; exact HF.out.1
  have HN12 := Lib.hid hn12
  clear HB3 e0
  go_wp2_with (fail)
  go_at_call 19
  refine (lDeciOf A n c l _ HL.out (by have := HN12.out; omega) (HP.out.ext (HE2.out.trans' (ext1 _ _))) (fun x hx => (HF.out.2 x hx).2)).mono ?_
  rintro e w3 ⟨v5, rfl, hown, hE⟩
  obtain ⟨A5, c5, rfl, hc5, hat⟩ := de_slice (n := n) hown (by simp [HL.out])
  have HE3 := Lib.hid ((HE2.out.trans' (ext1 _ _)).trans' hE)
  have HD5 := Lib.hid (show DeOwn w3 0 (.slice A5 n c5) (l.map dval) from owns_low hown (Nat.zero_le _))
  have HC5 := Lib.hid hc5
  have HST0 := Lib.hid (show StsOwn w3 w.heap.size (.slice (some ⟨w2.heap.size, 0, none⟩) 1 1) (stepsK (l.take 0)) from owns_low (owns_ext (sts_one w2) hE) HE2.out.size)
  clear hown hat hE hc5
  go_wp2
  go_loopw [3, 4, 29] (fun v m i wr => ∃ (k m' : Nat), k ≤ n ∧ i = .int .i64 k ∧ m = .int .i64 m' ∧ m' < n ∧ GoodK (l.take k) m' ∧ StsOwn wr w.heap.size v (stepsK (l.take k)) ∧ DeOwn wr 0 (.slice A5 n c5) (l.map dval) ∧ Ext w wr) (fun _ _ i _ => n - (intOf i).toNat)
  case atStart => exact ⟨0, 0, Nat.zero_le _, rfl, rfl, by have := HN0.out; omega, goodK_nil, HST0.out, HD5.out, HE3.out⟩
  case round =>
    obtain ⟨k, m, hk, rfl, rfl, hm, hgood, hsts, hde5, hE3⟩ := hrel
    obtain ⟨wo, hwo⟩ : ∃ W, W = wr := ⟨_, rfl⟩
    subst hwo
    have HG := Lib.hid hgood; have HS := Lib.hid hsts; have HDO := Lib.hid hde5; have HM := Lib.hid hm
    have HER := Lib.hid hE3
    clear hgood hsts hde5 hE3 hm
    by_cases hlt : k < n
    · have hkl : k < l.length := by rw [HL.out]; exact hlt
      obtain ⟨s, hs⟩ : ∃ s, s = l[k].1 := ⟨_, rfl⟩
      obtain ⟨x, hx⟩ : ∃ x, x = l[k].2.1 := ⟨_, rfl⟩
      obtain ⟨y, hy⟩ : ∃ y, y = l[k].2.2 := ⟨_, rfl⟩
      obtain ⟨z, hz⟩ : ∃ z, z = decV x y := ⟨_, rfl⟩
      have HLK := Lib.hid (show l[k] = (s, x, y) by rw [hs, hx, hy])
      have HDK := Lib.hid (show DecB x y by rw [hx, hy]; exact (HF.out.2 _ (List.getElem_mem hkl)).2)
      have HSZ := Lib.hid (show s.size ≤ 130 by rw [hs]; exact (HF.out.2 _ (List.getElem_mem hkl)).1)
      obtain ⟨g, o, hA, hc⟩ := HP.out (by intro e; have := congrArg List.length e; simp at this; rw [this] at hkl; simp at hkl)
      obtain ⟨g5, o5, hA5, hc5⟩ := (deAt_of_owns (by simp [HL.out]) HDO.out) (by intro e; have := congrArg List.length e; simp at this; rw [this] at hkl; simp at hkl)
      subst hA hA5
      have hck := hc k (by simpa using hkl)
      have HC := Lib.hid hc
      have HCC := Lib.hid hc5
      have HZ := Lib.hid hz
      obtain ⟨b, x0, x1, x2, x3, hde, d0, d1, d2, d3, d4, d5⟩ := deWordsU (de_get (w := wo) (s := s) (z := z) (k := k) (by simpa using hkl) (fun j hj i u hu => hc5 j hj i u hu) (by rw [List.getElem_map, HLK.out, hz]; rfl))
      have p0 : w.cell? ⟨g, o + k * 3, none⟩ = some (.string s) := by rw [hck.1, hs]; simp [dplain]
      have p1 : w.cell? ⟨g, o + k * 3 + 1, none⟩ = some (.int .i64 x) := by rw [hck.2.1, hx]; simp [dplain]
      have p2 : w.cell? ⟨g, o + k * 3 + 2, none⟩ = some (.int .i64 y) := by rw [hck.2.2, hy]; simp [dplain]
      have HPC := Lib.hid (show ∀ V, Ext w V → V.cell? ⟨g, o + k * 3, none⟩ = some (.string s) ∧ V.cell? ⟨g, o + k * 3 + 1, none⟩ = some (.int .i64 x) ∧ V.cell? ⟨g, o + k * 3 + 2, none⟩ = some (.int .i64 y) from fun V e => ⟨e.cell' p0, e.cell' p1, e.cell' p2⟩)
      have HDE := Lib.hid hde
      have HZ4 := Lib.hid (show z.natAbs < B64 ^ 2 by rw [hz]; exact decV_abs4 HDK.out)
      have HSG := Lib.hid (fun W => sSign z W (Nat.lt_of_lt_of_le HZ4.out b64_24))
      rw [hde] at HSG
      clear hs hx hy hz hck hc hc5 p0 p1 p2 hde
      have HRN := Lib.hid (fun W => lRateName s W (by have := HSZ.out; omega))
      have HRI := Lib.hid (lRateIs x y)
      obtain ⟨br, hbr⟩ : ∃ br, br = rateB x y := ⟨_, rfl⟩
      rw [← hbr] at HRI
      clear hbr
      obtain ⟨C, hC⟩ : ∃ C, C = wo.alloc (.cells #[.string s, .bool b, .int .u64 x0, .int .u64 x1, .int .u64 x2, .int .u64 x3] 53) := ⟨_, rfl⟩
      have KC := Lib.hid (show Blk C wo.heap.size 53 [.string s, .bool b, .int .u64 x0, .int .u64 x1, .int .u64 x2, .int .u64 x3] by rw [hC]; exact blk_new0 wo 53 [.string s, .bool b, .int .u64 x0, .int .u64 x1, .int .u64 x2, .int .u64 x3])
      have HEC := Lib.hid (show Ext wo C by rw [hC]; exact ext1 _ _)
      have HCW := Lib.hid hC; clear hC
      go_wp2_with (fail)
      go_at_call 25
      rw [← HCW.out]
      refine (HRN.out _).mono ?_
      rintro e w4 ⟨r4, rfl, hr4, hw4⟩
      obtain rfl := hw4.symm
      have HR4 := Lib.hid hr4; clear hr4 d0 d1 d2 d3 d4 d5
      have HEWC := Lib.hid (HER.out.trans' HEC.out)
      cases r4
      · skip
        go_wp2_with (fail)
        go_at_call 24
        refine (rateAwake _ (TW.out.ext HEWC.out)).mono ?_
        rintro e w99 ⟨rfl, hE⟩
        have HE99 := Lib.hid ((HEWC.out : Ext w _).trans' hE); clear hE
        go_wp2
        go_ret
        exact ⟨rfl, HE99.out⟩
      have HNM := Lib.hid (show NameOk s by first | exact HR4.out rfl | exact HR4.out trivial)
      clear HR4 HRN
      obtain ⟨q0, q1, q2⟩ := HPC.out _ HEWC.out
      go_wp2_with (fail)
      go_at_call 26
      refine (HRI.out _).mono ?_
      rintro e w5 ⟨rfl, hE⟩
      have HE5C := Lib.hid hE
      have HE5 := Lib.hid (HEWC.out.trans' hE); clear hE q0 q1 q2
      cases br
      · skip
        go_wp2_with (fail)
        go_at_call 24
        refine (rateAwake _ (TW.out.ext HE5.out)).mono ?_
        rintro e w99 ⟨rfl, hE⟩
        have HE99 := Lib.hid ((HE5.out : Ext w _).trans' hE); clear hE
        go_wp2
        go_ret
        exact ⟨rfl, HE99.out⟩
      clear HRI
      obtain ⟨k0, k1, k2, k3, k4, k5, lk⟩ := sixU (KC.out.ext HE5C.out)
      go_wp2_with (fail)
      go_at_call 22
      refine (HSG.out _).mono ?_
      obtain ⟨sg, hsg⟩ : ∃ sg, sg = sgn z := ⟨_, rfl⟩
      rw [← hsg]
      rintro e w6 ⟨rfl, hE⟩
      have HE6C := Lib.hid (HE5C.out.trans' hE)
      have HE6 := Lib.hid (HE5.out.trans' hE); clear hE k0 k1 k2 k3 k4 k5 lk
      by_cases hpos : 0 < z
      rotate_left
      · have hle : sg ≤ 0 := by rw [hsg]; unfold sgn; split <;> (try split) <;> omega
        clear hsg
        go_wp2_with (fail)
        go_at_call 24
        refine (rateAwake _ (TW.out.ext HE6.out)).mono ?_
        rintro e w99 ⟨rfl, hE⟩
        have HE99 := Lib.hid ((HE6.out : Ext w _).trans' hE); clear hE
        go_wp2
        go_ret
        exact ⟨rfl, HE99.out⟩
      obtain rfl : sg = 1 := by rw [hsg]; unfold sgn; rw [if_neg (by omega), if_pos hpos]
      have HPOS := Lib.hid hpos
      clear hsg hpos HSG
      have b0 : (0 : Int) ≤ (k : Int) := by omega
      have b1 : (k : Int) ≤ (c5 : Int) := by have := HC5.out; omega
      have b2 : k ≤ c5 := by have := HC5.out; omega
      go_wp2
      obtain ⟨W6, hW6⟩ : ∃ W, W = w6 := ⟨_, rfl⟩
      rw [← hW6] at HE6 HE6C ⊢
      clear hW6
      go_loopw [58] (fun i wz => ∃ (j : Nat), j ≤ k ∧ i = .int .i64 j ∧ (∀ p (hp : p < l.length), p < j → l[p].1 ≠ s) ∧ Ext W6 wz) (fun i _ => k - (intOf i).toNat)
      case atStart => exact ⟨0, Nat.zero_le _, rfl, (fun p _ h => by omega), Ext.refl _⟩
      case round =>
        obtain ⟨j, hj, rfl, hq, hE⟩ := hrel
        have HQ := Lib.hid hq
        have HJ := Lib.hid (HE6.out.trans' hE); have HJC := Lib.hid (HE6C.out.trans' hE); have HJ6 := Lib.hid hE
        clear hq hE
        by_cases hjt : j < k
        · have hjl : j < l.length := by omega
          obtain ⟨t, ht⟩ : ∃ t, t = l[j].1 := ⟨_, rfl⟩
          obtain ⟨bj, y0, y1, y2, y3, -, d0, d1, d2, d3, d4, d5⟩ := deWordsU (de_get (w := wr) (s := t) (z := (dval l[j]).2) (k := j) (by simpa using hjl) (fun j hj i u hu => (HEC.out.trans' HJC.out).cell' (HCC.out j hj i u hu)) (by rw [List.getElem_map, ht]; rfl))
          obtain ⟨k0, -, -, -, -, -, lk⟩ := sixU (KC.out.ext HJC.out)
          have HTJ := Lib.hid ht; clear ht
          by_cases hst : t = s
          · have hkey : (t.toList == s.toList) = true := by rw [key_beq]; simpa using hst
            clear hst
            go_wp2_with (fail)
            go_at_call 24
            refine (rateAwake _ (TW.out.ext (HJ.out.trans' (ext1 _ _)))).mono ?_
            rintro e w99 ⟨rfl, hE⟩
            have HE99 := Lib.hid ((HJ.out.trans' (ext1 _ _)).trans' hE); clear hE
            go_wp2
            go_ret
            exact ⟨rfl, HE99.out⟩
          · have hkey : (t.toList == s.toList) = false := by rw [key_beq]; simpa using hst
            have HNE := Lib.hid hst
            clear hst
            go_wp2
            go_roundw
            case rel =>
              refine ⟨j + 1, by omega, by go_num, fun p hp hlt => ?_, HJ6.out.trans' (ext1 _ _)⟩
              by_cases e : p = j
              · subst e; rw [← HTJ.out]; exact HNE.out
              · exact HQ.out p hp (by omega)
            all_goals (simp [intOf]; omega)
        · obtain rfl : j = k := by omega
          have hml : m < l.length := by rw [HL.out]; exact HM.out
          obtain ⟨zm, hzm⟩ : ∃ zm, zm = decV l[m].2.1 l[m].2.2 := ⟨_, rfl⟩
          obtain ⟨bm, y0, y1, y2, y3, hdm, d0, d1, d2, d3, d4, d5⟩ := deWordsU (de_get (w := wr) (s := l[m].1) (z := zm) (k := m) (by simpa using hml) (fun j hj i u hu => (HEC.out.trans' HJC.out).cell' (HCC.out j hj i u hu)) (by rw [List.getElem_map, hzm]; rfl))
          have HM4 := Lib.hid (show zm.natAbs < B64 ^ 2 by rw [hzm]; exact decV_abs4 (HF.out.2 _ (List.getElem_mem hml)).2)
          have HAB := Lib.hid (show z.natAbs + zm.natAbs < B64 ^ 4 ∧ (z - zm).natAbs < B64 ^ 4 by
            have h1 := HZ4.out; have h2 := HM4.out
            have h3 : B64 ^ 2 + B64 ^ 2 ≤ B64 ^ 4 := by unfold B64; decide
            omega)
          have HMI := Lib.hid (fun W => sMinus z zm W HAB.out.1)
          have HSI := Lib.hid (fun W => sSign (z - zm) W HAB.out.2)
          rw [HDE.out, hdm] at HMI
          obtain ⟨v0, v1, v2, v3, e0, e1, e2, e3, -⟩ := words_of (z - zm).natAbs
          obtain ⟨bd, hbd⟩ : ∃ bd, bd = decide (z - zm < 0) := ⟨_, rfl⟩
          have hdd : de (z - zm) = .agg #[.bool bd, .int .u64 v0, .int .u64 v1, .int .u64 v2, .int .u64 v3] := by unfold de deV; rw [e0, e1, e2, e3, hbd]
          rw [hdd] at HMI HSI
          obtain ⟨sg, hsg⟩ : ∃ sg, sg = sgn (z - zm) := ⟨_, rfl⟩
          rw [← hsg] at HSI
          have HSGN := Lib.hid hsg
          have HZM := Lib.hid hzm
          clear hsg hdd e0 e1 e2 e3 hbd hzm hdm
          obtain ⟨k0, k1, k2, k3, k4, k5, lk⟩ := sixU (KC.out.ext HJC.out)
          have g0 : (0 : Int) ≤ (m : Int) := by omega
          have g1 : (m : Int) < (n : Int) := by have := HM.out; omega
          have g2 : m < n := HM.out
          go_upto_region 19 with fail
          obtain ⟨V, hV⟩ : ∃ V, V = wr := ⟨_, rfl⟩
          go_cut [78] (fun s78 wx => s78 = .bool (decide (sg < 0)) ∧ Ext wr wx)
          case first =>
            go_region_law (first | (go_simp; go_at_call 27; refine (HMI.out _).mono ?_; rintro e w7 ⟨rfl, hE⟩; have HE7 := Lib.hid (Ext.undrew hE); clear hE) | (go_simp; go_at_call 22; refine (HSI.out _).mono ?_; rintro e w8 ⟨rfl, hE⟩; have HE8 := Lib.hid (HE7.out.trans' hE); clear hE))
            all_goals (go_wp2_with fail; go_meet)
            all_goals exact ⟨rfl, HE8.out⟩
          case rest =>
          obtain ⟨rfl, hE⟩ := hcut
          have HX := Lib.hid hE
          clear hE d0 d1 d2 d3 d4 d5 k0 k1 k2 k3 k4 k5 lk hV
          have HXW := Lib.hid (HJ.out.trans' HX.out)
          have HNQ := Lib.hid (show ∀ q ∈ l.take j, q.1 ≠ s from fun q hq => by
            obtain ⟨p, hp, rfl⟩ := List.mem_iff_getElem.1 hq
            rw [List.length_take] at hp
            rw [List.getElem_take]
            exact HQ.out p (by omega) (by omega))
          have HTK := Lib.hid (show l.take (j + 1) = l.take j ++ [(s, x, y)] by rw [List.take_succ_eq_append_getElem hkl, HLK.out])
          have HGS := Lib.hid (show ∀ m', ((l.take j = [] ∧ m' = 0) ∨ ∃ h : m < (l.take j).length, (decV x y < decV (l.take j)[m].2.1 (l.take j)[m].2.2 ∧ m' = (l.take j).length) ∨ (¬ decV x y < decV (l.take j)[m].2.1 (l.take j)[m].2.2 ∧ m' = m)) → GoodK (l.take (j + 1)) m' from fun m' hm' => by
            rw [HTK.out]
            exact HG.out.snoc (x := (s, x, y)) HNQ.out HNM.out (by show 0 < decV x y; rw [← HZ.out]; exact HPOS.out) hm')
          have HPA := Lib.hid (show ∀ V, Ext wc V → V.cell? ⟨g, o + j * 3 + 1, none⟩ = some (.int .i64 x) ∧ V.cell? ⟨g, o + j * 3 + 2, none⟩ = some (.int .i64 y) ∧ V.cell? ⟨wo.heap.size, 0, none⟩ = some (.string s) from fun V e => ⟨(HPC.out _ (HXW.out.trans' e)).2.1, (HPC.out _ (HXW.out.trans' e)).2.2, ((KC.out.ext (HJC.out.trans' (HX.out.trans' e))).cell 0).trans rfl⟩)
          have HOW := Lib.hid (show StsOwn wc w.heap.size u3 (stepsK (l.take j)) from owns_ext HS.out (HEC.out.trans' (HJC.out.trans' HX.out)))
          have HDX := Lib.hid (show DeOwn wc 0 (.slice (some ⟨g5, o5, none⟩) n c5) (l.map dval) from owns_ext HDO.out (HEC.out.trans' (HJC.out.trans' HX.out)))
          have hkn : (j : Int) < (n : Int) := by omega
          have hkc : (0 : Int) ≤ (j : Int) := by omega
          by_cases hsl : sg < 0
          · skip
            have HGN := Lib.hid (show GoodK (l.take (j + 1)) j from by
              have hs := HSGN.out
              have hcmp : z < zm := by rw [hs] at hsl; unfold sgn at hsl; split at hsl <;> (try split at hsl) <;> omega
              by_cases hj0 : l.take j = []
              · have hjz : j = 0 := by
                  have := congrArg List.length hj0; rw [List.length_take, List.length_nil] at this; omega
                have hm0 : m = 0 := (HG.out.nil hj0).1
                exfalso
                have hz0 : z = zm := by rw [HZM.out, HZ.out]; subst hjz; subst hm0; rw [HLK.out]
                omega
              · obtain ⟨hml2, _⟩ := HG.out.base hj0
                refine HGS.out j (Or.inr ⟨hml2, Or.inl ⟨?_, by rw [List.length_take]; omega⟩⟩)
                rw [List.getElem_take, ← HZM.out, ← HZ.out]; exact hcmp)
            go_upto_region 21 with fail
            obtain ⟨r1, r2, r3⟩ := HPA.out wc (Ext.refl _)
            have HNW := Lib.hid (cells_new wc.drew [.int .i64 0, .string s, .int .i64 x, .int .i64 y, .string ⟨#[]⟩, .int .i64 0, .string ⟨#[]⟩, .int .i64 0, .int .i64 0, .slice none 0 0] 50)
            have HT1 := Lib.hid (show ∀ u ∈ ([.int .i64 0, .string s, .int .i64 x, .int .i64 y, .string ⟨#[]⟩, .int .i64 0, .string ⟨#[]⟩, .int .i64 0, .int .i64 0, .slice none 0 0] : List Value), u.oneCell' = true from ten_one' (regS (s, x, y)))
            have HOX := Lib.hid (show (wc.drew.alloc (.cells #[.int .i64 0, .string s, .int .i64 x, .int .i64 y, .string ⟨#[]⟩, .int .i64 0, .string ⟨#[]⟩, .int .i64 0, .int .i64 0, .slice none 0 0] 50)).ownsRow w.heap.size 50 10 u3 (stepsK (l.take j)).length (flat10 St.cells (stepsK (l.take j))) from owns_ext HOW.out ((Ext.drewN' wc 1).trans' (ext1 _ _)))
            have hlen : (stepsK (l.take j)).length ≤ 13 := by rw [goodK_len, List.length_take]; omega
            have hsz := HXW.out.size
            go_region_law (refine step_append_lies _ rfl (.tmp 80) (.tmp 89) 51 rfl w.heap.size 50 i0 _ 10 120 Tryz.underlying51 hi hz0 hz1 hz2 rfl (by decide) u3 (stepsK (l.take j)).length (flat10 St.cells (stepsK (l.take j))) rfl HOX.out ⟨wc.heap.size, 0, none⟩ 1 1 [.int .i64 0, .string s, .int .i64 x, .int .i64 y, .string ⟨#[]⟩, .int .i64 0, .string ⟨#[]⟩, .int .i64 0, .int .i64 0, .slice none 0 0] rfl rfl HNW.out HT1.out (by decide) (by unfold maxLen; omega) (by omega) (by simp; omega) _ rfl ?_; intro g9 cap w9 hown hgrow _ _; have RR := Lib.hid (sts_push (x := regS (s, x, y)) (w := w) HOX.out (HXW.out.trans' ((Ext.drewN' wc 1).trans' (ext1 _ _))) hown hgrow); have RD := Lib.hid (World.ownsRow.kept (owns_ext HDX.out ((Ext.drewN' wc 1).trans' (ext1 _ (.cells #[.int .i64 0, .string s, .int .i64 x, .int .i64 y, .string ⟨#[]⟩, .int .i64 0, .string ⟨#[]⟩, .int .i64 0, .int .i64 0, .slice none 0 0] 50)))) hgrow (rows_apart (owns_ext HDX.out ((Ext.drewN' wc 1).trans' (ext1 _ _))) HOX.out (by decide))); clear hown hgrow)
            clear r1 r2 r3
            all_goals go_wp2
            all_goals exact ⟨⟨j + 1, j, by omega, by go_num, rfl, by omega, HGN.out, by rw [HTK.out, stepsK_snoc]; exact RR.out.1, RD.out, RR.out.2⟩, by simp [intOf]; omega⟩
          · have hge : 0 ≤ sg := by omega
            have HGN := Lib.hid (show GoodK (l.take (j + 1)) m from by
              have hs := HSGN.out
              have hcmp : ¬ z < zm := by rw [hs] at hsl; unfold sgn at hsl; split at hsl <;> (try split at hsl) <;> omega
              by_cases hj0 : l.take j = []
              · have hjz : j = 0 := by
                  have := congrArg List.length hj0; rw [List.length_take, List.length_nil] at this; omega
                have hm0 : m = 0 := (HG.out.nil hj0).1
                exact HGS.out m (Or.inl ⟨hj0, hm0⟩)
                
                
              · obtain ⟨hml2, _⟩ := HG.out.base hj0
                refine HGS.out m (Or.inr ⟨hml2, Or.inr ⟨?_, rfl⟩⟩)
                rw [List.getElem_take, ← HZM.out, ← HZ.out]; exact hcmp)
            clear hsl
            go_upto_region 21 with fail
            obtain ⟨r1, r2, r3⟩ := HPA.out wc (Ext.refl _)
            have HNW := Lib.hid (cells_new wc.drew [.int .i64 0, .string s, .int .i64 x, .int .i64 y, .string ⟨#[]⟩, .int .i64 0, .string ⟨#[]⟩, .int .i64 0, .int .i64 0, .slice none 0 0] 50)
            have HT1 := Lib.hid (show ∀ u ∈ ([.int .i64 0, .string s, .int .i64 x, .int .i64 y, .string ⟨#[]⟩, .int .i64 0, .string ⟨#[]⟩, .int .i64 0, .int .i64 0, .slice none 0 0] : List Value), u.oneCell' = true from ten_one' (regS (s, x, y)))
            have HOX := Lib.hid (show (wc.drew.alloc (.cells #[.int .i64 0, .string s, .int .i64 x, .int .i64 y, .string ⟨#[]⟩, .int .i64 0, .string ⟨#[]⟩, .int .i64 0, .int .i64 0, .slice none 0 0] 50)).ownsRow w.heap.size 50 10 u3 (stepsK (l.take j)).length (flat10 St.cells (stepsK (l.take j))) from owns_ext HOW.out ((Ext.drewN' wc 1).trans' (ext1 _ _)))
            have hlen : (stepsK (l.take j)).length ≤ 13 := by rw [goodK_len, List.length_take]; omega
            have hsz := HXW.out.size
            go_region_law (refine step_append_lies _ rfl (.tmp 80) (.tmp 89) 51 rfl w.heap.size 50 i0 _ 10 120 Tryz.underlying51 hi hz0 hz1 hz2 rfl (by decide) u3 (stepsK (l.take j)).length (flat10 St.cells (stepsK (l.take j))) rfl HOX.out ⟨wc.heap.size, 0, none⟩ 1 1 [.int .i64 0, .string s, .int .i64 x, .int .i64 y, .string ⟨#[]⟩, .int .i64 0, .string ⟨#[]⟩, .int .i64 0, .int .i64 0, .slice none 0 0] rfl rfl HNW.out HT1.out (by decide) (by unfold maxLen; omega) (by omega) (by simp; omega) _ rfl ?_; intro g9 cap w9 hown hgrow _ _; have RR := Lib.hid (sts_push (x := regS (s, x, y)) (w := w) HOX.out (HXW.out.trans' ((Ext.drewN' wc 1).trans' (ext1 _ _))) hown hgrow); have RD := Lib.hid (World.ownsRow.kept (owns_ext HDX.out ((Ext.drewN' wc 1).trans' (ext1 _ (.cells #[.int .i64 0, .string s, .int .i64 x, .int .i64 y, .string ⟨#[]⟩, .int .i64 0, .string ⟨#[]⟩, .int .i64 0, .int .i64 0, .slice none 0 0] 50)))) hgrow (rows_apart (owns_ext HDX.out ((Ext.drewN' wc 1).trans' (ext1 _ _))) HOX.out (by decide))); clear hown hgrow)
            clear r1 r2 r3
            all_goals go_wp2
            all_goals exact ⟨⟨j + 1, m, by omega, by go_num, rfl, by exact g2, HGN.out, by rw [HTK.out, stepsK_snoc]; exact RR.out.1, RD.out, RR.out.2⟩, by simp [intOf]; omega⟩
    · obtain rfl : n = k := by omega
      have htk : l.take n = l := List.take_of_length_le (by rw [HL.out]; exact Nat.le_refl _)
      have hgf := HG.out; have hsf := HS.out
      rw [htk] at hgf hsf
      have HSF := Lib.hid hsf
      have hln : l ≠ [] := by intro e; have := HL.out; rw [e] at this; exact HN0.out this.symm
      obtain ⟨hml, hal, ha0, ha1⟩ := hgf.answers hln
      rw [HL.out] at hal
      have HA0 := Lib.hid ha0; have HA1 := Lib.hid ha1; have HAL := Lib.hid hal
      clear htk hgf hsf ha0 ha1
      obtain ⟨sm, hsm⟩ : ∃ sm, sm = l[m].1 := ⟨_, rfl⟩
      obtain ⟨g, o, hA, hc⟩ := HP.out (by intro e; have := congrArg List.length e; simp at this; exact hln this)
      subst hA
      have hcm := (hc m (by simpa using hml)).1
      have HPM := Lib.hid (show ∀ V, Ext w V → V.cell? ⟨g, o + m * 3, none⟩ = some (.string sm) from fun V e => e.cell' (by rw [hcm, hsm]; simp [dplain]))
      have HSM := Lib.hid hsm
      have hklen : (stepsK l).length = n + 1 := by rw [goodK_len, HL.out]
      have HKL := Lib.hid hklen
      clear hc hcm hsm hal hklen
      have HNW := Lib.hid (cells_new wo [.int .i64 3, .string ⟨#[]⟩, .int .i64 0, .int .i64 0, .string ⟨#[]⟩, .int .i64 0, .string ⟨#[]⟩, .int .i64 0, .int .i64 0, .slice none 0 0] 50)
      have HT1 := Lib.hid (show ∀ u ∈ ([.int .i64 3, .string ⟨#[]⟩, .int .i64 0, .int .i64 0, .string ⟨#[]⟩, .int .i64 0, .string ⟨#[]⟩, .int .i64 0, .int .i64 0, .slice none 0 0] : List Value), u.oneCell' = true from ten_one' base3)
      have HOX := Lib.hid (show (wo.alloc (.cells #[.int .i64 3, .string ⟨#[]⟩, .int .i64 0, .int .i64 0, .string ⟨#[]⟩, .int .i64 0, .string ⟨#[]⟩, .int .i64 0, .int .i64 0, .slice none 0 0] 50)).ownsRow w.heap.size 50 10 u3 (stepsK l).length (flat10 St.cells (stepsK l)) from owns_ext HSF.out (ext1 _ _))
      have hsz := HER.out.size
      go_wp2_with (at_builtin; refine wpList_append_own_at _ rfl (.tmp 92) (.tmp 94) 51 rfl w.heap.size 50 i0 _ 10 120 Tryz.underlying51 hi hz0 hz1 hz2 rfl (by decide) u3 (stepsK l).length (flat10 St.cells (stepsK l)) rfl HOX.out ⟨wo.heap.size, 0, none⟩ 1 1 [.int .i64 3, .string ⟨#[]⟩, .int .i64 0, .int .i64 0, .string ⟨#[]⟩, .int .i64 0, .string ⟨#[]⟩, .int .i64 0, .int .i64 0, .slice none 0 0] rfl rfl HNW.out HT1.out (by rw [HKL.out]; unfold maxLen; omega) (by rw [HKL.out]; omega) (by simp; omega) ?_; intro v' w9 hown hgrow _ _; have RR := Lib.hid (sts_push (x := base3) (w := w) HOX.out (HER.out.trans' (ext1 _ _)) hown hgrow); clear hown hgrow; obtain ⟨A9, c9, rfl, h9, _, hat9⟩ := ten_slice St.cells_length RR.out.1 (n := n + 2) (by simp [HKL.out]); have HAT9 := Lib.hid hat9; clear hat9)
      go_at_call 28
      refine (iUnits A9 (n + 2) c9 (stepsK l ++ [base3]) w9 (by simp [HKL.out]) (by omega) HAT9.out (stepsK_ok (fun x hx => (HF.out.2 x hx).2) (fun x hx => by have := (HF.out.2 x hx).1; unfold maxLen; omega)) (TW.out.ext RR.out.2)).mono ?_
      rintro e w10 ⟨v, rfl, ho, hE⟩
      obtain ⟨A10, c10, rfl, h10, _, hat⟩ := ten_slice An.cells_length ho (n := n + 2) HAL.out
      obtain ⟨ga, oa, rfl, hca⟩ := ans_get hat (by intro e; have := HAL.out; change (Rg.answers ⟨[], ⟨#[]⟩⟩ (stepsK l ++ [base3])).length = n + 2 at this; rw [e] at this; simp at this)
      obtain ⟨p0, -, -, -⟩ := hca 0 (by have := HAL.out; change (Rg.answers ⟨[], ⟨#[]⟩⟩ (stepsK l ++ [base3])).length = n + 2 at this; omega)
      obtain ⟨p1, p2, -, -⟩ := hca (n + 1) (by have := HAL.out; change (Rg.answers ⟨[], ⟨#[]⟩⟩ (stepsK l ++ [base3])).length = n + 2 at this; omega)
      have q0 : w10.cell? ⟨ga, oa, none⟩ = some (.bool false) := by
        rw [Nat.zero_mul, Nat.add_zero] at p0; rw [p0]; exact congrArg (fun x => some (Value.bool x)) (HA0.out (by rw [HAL.out]; omega))
      have hl1 := HA1.out (by rw [HAL.out, HL.out]; omega)
      have q1 : w10.cell? ⟨ga, oa + (n + 1) * 10, none⟩ = some (.bool true) := by
        rw [p1]; refine congrArg (fun x => some (Value.bool x)) ?_
        have := hl1.1
        simp only [HL.out] at this; exact this
      have q2 : w10.cell? ⟨ga, oa + (n + 1) * 10 + 1, none⟩ = some (.string sm) := by
        rw [p2, HSM.out]; refine congrArg (fun x => some (Value.string x)) ?_
        have := hl1.2
        simp only [HL.out] at this; exact this
      have HE10 := Lib.hid (RR.out.2.trans' hE)
      have HQS := Lib.hid (show ∀ V, Ext w10 V → V.cell? ⟨ga, oa, none⟩ = some (.bool false) ∧ V.cell? ⟨ga, oa + (n + 1) * 10, none⟩ = some (.bool true) ∧ V.cell? ⟨ga, oa + (n + 1) * 10 + 1, none⟩ = some (.string sm) ∧ V.cell? ⟨g, o + m * 3, none⟩ = some (.string sm) from fun V e => ⟨e.cell' q0, e.cell' q1, e.cell' q2, HPM.out V (HE10.out.trans' e)⟩)
      clear p0 p1 p2 hca hat ho hE hl1 q0 q1 q2
      obtain ⟨n0, n1⟩ := ubIdx HM.out
      obtain ⟨n2, n3, n5, n6, n4, n7, n8, n9, n10, n11⟩ := ubWrap hn12
      have HR := Lib.hid (show Ext w10 w10.drew from Ext.drewN' w10 1)
      go_upto_region 24 with fail
      go_region_held3 (fun V => V.cell? ⟨ga, oa, none⟩ = some (.bool false) ∧ V.cell? ⟨ga, oa + (n + 1) * 10, none⟩ = some (.bool true) ∧ V.cell? ⟨ga, oa + (n + 1) * 10 + 1, none⟩ = some (.string sm) ∧ V.cell? ⟨g, o + m * 3, none⟩ = some (.string sm)) ((first | exact HQS.out _ HR.out | exact HQS.out _ HR8.out)) ((go_at_call 24; refine (rateAwake _ (TW.out.ext (HE10.out.trans' (Ext.drewN' _ 1)))).mono ?_; rintro e w11 ⟨rfl, hE⟩; have HR8 := Lib.hid (Ext.undrew hE); clear hE))
      all_goals (go_wp2_with fail)
      all_goals go_ret
      all_goals exact ⟨rfl, HE10.out.trans' HR8.out⟩
end Go.Proofs.YtcoffndnfaemoaaGreatDoor
