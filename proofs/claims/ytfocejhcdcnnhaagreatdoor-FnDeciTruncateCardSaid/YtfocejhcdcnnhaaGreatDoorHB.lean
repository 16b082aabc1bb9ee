/-
  DecCoins.AmountOf.
  The specification's DeciAmount.
-/
import Derived.Test.YtfocejhcdcnnhaaGreatDoorGY
import Derived.Test.YtfocejhcdcnnhaaGreatDoorGR
import Derived.Test.YtfocejhcdcnnhaaGreatDoorGP
import Derived.Test.YtfocejhcdcnnhaaGreatDoorGZ
import Derived.Test.YtfocejhcdcnnhaaGreatDoorGW
namespace Go.Proofs.YtfocejhcdcnnhaaGreatDoor
open Go Go.RowKit

theorem tot_split (t : ByteArray) (l : List (ByteArray × Int)) (k : Nat) : totalP t l = totalP t (l.take k) + totalP t (l.drop k) := by
  rw [← totalP_append, List.take_append_drop]
theorem tot_lo {t : ByteArray} {l : List (ByteArray × Int)} (h : AscP l) {k : Nat} (hk : k < l.length) (ht : keyLt t l[k].1 = true) : totalP t l = totalP t (l.take k) := by
  rw [tot_split t l k, totalP_none (l := l.drop k), Int.add_zero]
  intro x hx e
  obtain ⟨j, hj, rfl⟩ := List.getElem_of_mem hx
  simp only [List.length_drop] at hj
  rw [List.getElem_drop] at e
  rcases Nat.eq_zero_or_pos j with rfl | hj0
  · rw [← e] at ht; simp only [Nat.add_zero] at ht; rw [keyLt_irrefl] at ht; cases ht
  · have h1 := List.pairwise_iff_getElem.1 h k (k + j) hk (by omega) (by omega)
    rw [e] at h1
    rw [keyLt_asymm h1] at ht; cases ht
theorem tot_hi {t : ByteArray} {l : List (ByteArray × Int)} (h : AscP l) {k : Nat} (hk : k < l.length) (ht : keyLt l[k].1 t = true) : totalP t l = totalP t (l.drop (k + 1)) := by
  rw [tot_split t l (k + 1), totalP_none (l := l.take (k + 1)), Int.zero_add]
  intro x hx e
  obtain ⟨j, hj, rfl⟩ := List.getElem_of_mem hx
  simp only [List.length_take] at hj
  rw [List.getElem_take] at e
  rcases (by omega : j = k ∨ j < k) with rfl | hj0
  · rw [e, keyLt_irrefl] at ht; cases ht
  · have h1 := List.pairwise_iff_getElem.1 h j k (by omega) hk (by omega)
    rw [e] at h1
    rw [keyLt_asymm h1] at ht; cases ht
theorem tot_eq {t : ByteArray} {l : List (ByteArray × Int)} (h : AscP l) {k : Nat} (hk : k < l.length) (ht : l[k].1 = t) : totalP t l = l[k].2 := by
  rw [← ht]; exact tot_get h (List.getElem_mem hk)
theorem dcoins_take {w : World} {A : Option Addr} {l : List Co} (h : DCoinsAt w A l) (k : Nat) : DCoinsAt w A (l.take k) := by
  refine ⟨fun hn => ?_, fun x hx => h.2 x (List.mem_of_mem_take hx)⟩
  obtain ⟨g, o, hA, hc⟩ := h.1 (by intro e; rw [List.map_take, e] at hn; simp at hn)
  refine ⟨g, o, hA, fun j hj => ?_⟩
  have hj' : j < (l.map Co.pair).length := by simp only [List.length_map, List.length_take] at hj ⊢; omega
  have := hc j hj'
  simpa using this
theorem dcoins_drop {w : World} {g o : Nat} {l : List Co} (h : DCoinsAt w (some ⟨g, o, none⟩) l) (k : Nat) : DCoinsAt w (some ⟨g, o + k * 2, none⟩) (l.drop k) := by
  refine ⟨fun hn => ⟨g, o + k * 2, rfl, fun j hj => ?_⟩, fun x hx => h.2 x (List.mem_of_mem_drop hx)⟩
  obtain ⟨g', o', hA, hc⟩ := h.1 (by intro e; rw [List.map_drop, e] at hn; simp at hn)
  obtain ⟨rfl, rfl⟩ : g' = g ∧ o' = o := by injection hA with hA; injection hA with h1 h2; exact ⟨h1.symm, h2.symm⟩
  have hj' : k + j < (l.map Co.pair).length := by simp only [List.length_map, List.length_drop] at hj ⊢; omega
  have := hc (k + j) hj'
  rw [show o' + k * 2 + j * 2 = o' + (k + j) * 2 by omega]
  simpa using this

/-- An amount handed back. -/
def RetAmt (z : Int) (w : World) (e : Ending) (w' : World) : Prop := ∃ b, e = .returned (.agg #[.pointer (some ⟨b, 0, none⟩)]) ∧ BigK w' b z ∧ Ext w w'

set_option maxRecDepth 100000 in
set_option maxHeartbeats 2000000 in
theorem tdAmountOf (t : ByteArray) (N : Nat) : ∀ (A : Option Addr) (n c : Nat) (l : List Co) (w : World), l.length = n → n < N → n ≤ 100000 → n ≤ c → DCoinsAt w A l → AscP (l.map Co.val) →
    Calls Tryz.prog 104 #[.slice A n c, .string t] w (RetAmt (totalP t (l.map Co.val)) w) := by
  induction N with
  | zero => intro A n c l w _ h0; omega
  | succ N ih =>
    intro A n c l w hl hnN hn hc h hs
    have IH := Lib.hid ih; have HL := Lib.hid hl; have HP := Lib.hid h; have HSO := Lib.hid hs
    clear ih hl h hs
    obtain ⟨W, hW⟩ : ∃ W, W = w.alloc (.cells #[.pointer none] 77) := ⟨_, rfl⟩
    have KR := Lib.hid (show Blk W w.heap.size 77 [.pointer none] by rw [hW]; exact blk_new0 w 77 [.pointer none])
    have EW := Lib.hid (show Ext w W by rw [hW]; exact ext1 _ _)
    have HWW := Lib.hid hW; clear hW
    obtain ⟨T, hT⟩ : ∃ T, T = totalP t (l.map Co.val) := ⟨_, rfl⟩
    rw [← hT]
    have HT := Lib.hid hT; clear hT
    go_enter Tryz.func104, Tryz.ntmps104
    go_upto_region 1 with fail
    rw [← HWW.out]
    rcases (by omega : n = 0 ∨ n = 1 ∨ 2 ≤ n) with rfl | rfl | h2
    · have hT0 : T = 0 := by rw [HT.out, List.eq_nil_of_length_eq_zero HL.out]; rfl
      subst hT0
      go_wp2_with (fail)
      go_at_call 138
      refine (dZeroDec W).mono ?_
      rintro e w1 ⟨b, rfl, hB, hE⟩
      have HB := Lib.hid hB.k; have HE := Lib.hid hE; have KR1 := Lib.hid (KR.out.ext hE)
      clear hB hE
      have z0 : w1.cell? ⟨w.heap.size, 0, none⟩ = some (.pointer none) := (KR1.out.cell 0).trans rfl
      have f0 := KR1.out.frozen 0
      have lz := cell_lt z0
      go_wp2
      exact bodyPost_ret (v := .agg #[.pointer (some ⟨b, 0, none⟩)]) (by simp [results, Tryz.results104, go_sem, z0]) rfl ⟨b, rfl, HB.out.set_ KR1.out 0 _, Only.ext (EW.out.trans' HE.out) ((Only.refl _ _).set_ 0 _) (by omega)⟩
    · obtain ⟨x, rfl⟩ : ∃ x, l = [x] := List.length_eq_one_iff.1 HL.out
      obtain ⟨s, b, z⟩ := x
      obtain ⟨g, o, rfl, hc0⟩ := HP.out.1 (by simp)
      have hB : BigK w b z := HP.out.2 ⟨s, b, z⟩ (by simp)
      obtain ⟨a0, a1⟩ := hc0 0 (by simp)
      have c0 : W.cell? ⟨g, o, none⟩ = some (.string s) := EW.out.cell' (by simpa [Co.pair] using a0)
      have c1 : W.cell? ⟨g, o + 1, none⟩ = some (.pointer (some ⟨b, 0, none⟩)) := EW.out.cell' (by simpa [Co.pair] using a1)
      have HB := Lib.hid (hB.ext EW.out)
      clear hc0 a0 a1 hB
      obtain ⟨W1, hW1⟩ : ∃ W1, W1 = W.alloc (dcBox s b) := ⟨_, rfl⟩
      have KB := Lib.hid (show Blk W1 W.heap.size 106 [.string s, .pointer (some ⟨b, 0, none⟩)] by rw [hW1]; exact blk_new0 W 106 [.string s, .pointer (some ⟨b, 0, none⟩)])
      have EW1 := Lib.hid (show Ext W W1 by rw [hW1]; exact ext1 _ _)
      have HW1 := Lib.hid hW1; clear hW1
      have KR1 := Lib.hid (KR.out.ext EW1.out)
      have z0 : W1.cell? ⟨w.heap.size, 0, none⟩ = some (.pointer none) := (KR1.out.cell 0).trans rfl
      have f0 := KR1.out.frozen 0
      have lz := cell_lt z0
      have b0 : W1.cell? ⟨W.heap.size, 0, none⟩ = some (.string s) := (KB.out.cell 0).trans rfl
      have b1 : W1.cell? ⟨W.heap.size, 1, none⟩ = some (.pointer (some ⟨b, 0, none⟩)) := (KB.out.cell 1).trans rfl
      have lb := cell_lt b0
      by_cases hst : s = t
      · subst hst
        have hTz : T = z := by rw [HT.out]; simp [totalP, Co.val]
        subst hTz
        go_upto_region 13 with fail
        rw [← HW1.out]
        generalize W.heap.size = q at *
        go_wp2
        exact bodyPost_ret (v := .agg #[.pointer (some ⟨b, 0, none⟩)]) (by simp [results, Tryz.results104, go_sem, z0]) rfl ⟨b, rfl, (HB.out.ext EW1.out).set_ KR1.out 0 _, Only.ext (EW.out.trans' EW1.out) ((Only.refl _ _).set_ 0 _) (by omega)⟩
      · have hTz : T = 0 := by rw [HT.out]; simp [totalP, Co.val, hst]
        subst hTz
        have hne : (s.toList == t.toList) = false := by rw [key_beq]; simpa using hst
        clear hst
        go_upto_region 13 with fail
        rw [← HW1.out]
        generalize W.heap.size = q at *
        go_wp2_with (fail)
        go_at_call 138
        refine (dZeroDec W1).mono ?_
        rintro e w1 ⟨b', rfl, hB, hE⟩
        have HB2 := Lib.hid hB.k; have HE := Lib.hid hE; have KR2 := Lib.hid (KR1.out.ext hE)
        clear hB hE z0 f0 lz b0 b1 lb
        have z0 : w1.cell? ⟨w.heap.size, 0, none⟩ = some (.pointer none) := (KR2.out.cell 0).trans rfl
        have f0 := KR2.out.frozen 0
        have lz := cell_lt z0
        go_wp2
        exact bodyPost_ret (v := .agg #[.pointer (some ⟨b', 0, none⟩)]) (by simp [results, Tryz.results104, go_sem, z0]) rfl ⟨b', rfl, HB2.out.set_ KR2.out 0 _, Only.ext ((EW.out.trans' EW1.out).trans' HE.out) ((Only.refl _ _).set_ 0 _) (by omega)⟩
    · obtain ⟨m, hm⟩ : ∃ m, m = n / 2 := ⟨_, rfl⟩
      have em : (n : Int) / 2 = (m : Int) := by omega
      have em2 : n / 2 = m := hm.symm
      have hml : m < l.length := by have := HL.out; omega
      have hmn : m < n := by omega
      have hm1 : 1 ≤ m := by omega
      clear hm
      have n0 : ((n : Int) == 0) = false := by simp; omega
      have n1 : ((n : Int) == 1) = false := by simp; omega
      obtain ⟨s, hs⟩ : ∃ s, s = l[m].s := ⟨_, rfl⟩
      obtain ⟨b, hb⟩ : ∃ b, b = l[m].b := ⟨_, rfl⟩
      obtain ⟨z, hzz⟩ : ∃ z, z = l[m].z := ⟨_, rfl⟩
      obtain ⟨g, o, hA, hc0⟩ := HP.out.1 (by intro e; have := congrArg List.length e; simp at this; rw [this] at hml; simp at hml)
      subst hA
      have hB : BigK w b z := by rw [hb, hzz]; exact HP.out.2 _ (List.getElem_mem hml)
      obtain ⟨a0, a1⟩ := hc0 m (by simpa using hml)
      have c0 : W.cell? ⟨g, o + m * 2, none⟩ = some (.string s) := EW.out.cell' (by rw [a0, hs]; simp [Co.pair])
      have c1 : W.cell? ⟨g, o + m * 2 + 1, none⟩ = some (.pointer (some ⟨b, 0, none⟩)) := EW.out.cell' (by rw [a1, hb]; simp [Co.pair])
      have HX := Lib.hid (show (l.map Co.val)[m]'(by simpa using hml) = (s, z) by simp [Co.val, hs, hzz])
      have HB := Lib.hid (hB.ext EW.out)
      clear hc0 a0 a1 hB hs hb hzz
      obtain ⟨W1, hW1⟩ : ∃ W1, W1 = W.alloc (dcBox s b) := ⟨_, rfl⟩
      have KB := Lib.hid (show Blk W1 W.heap.size 106 [.string s, .pointer (some ⟨b, 0, none⟩)] by rw [hW1]; exact blk_new0 W 106 [.string s, .pointer (some ⟨b, 0, none⟩)])
      have EW1 := Lib.hid (show Ext W W1 by rw [hW1]; exact ext1 _ _)
      have HW1 := Lib.hid hW1; clear hW1
      have KR1 := Lib.hid (KR.out.ext EW1.out)
      have z0 : W1.cell? ⟨w.heap.size, 0, none⟩ = some (.pointer none) := (KR1.out.cell 0).trans rfl
      have f0 := KR1.out.frozen 0
      have lz := cell_lt z0
      have b0 : W1.cell? ⟨W.heap.size, 0, none⟩ = some (.string s) := (KB.out.cell 0).trans rfl
      have b1 : W1.cell? ⟨W.heap.size, 1, none⟩ = some (.pointer (some ⟨b, 0, none⟩)) := (KB.out.cell 1).trans rfl
      have lb := cell_lt b0
      have HP1 := Lib.hid (HP.out.ext (EW.out.trans' EW1.out))
      go_upto_region 5 with fail
      rw [← HW1.out]
      generalize W.heap.size = q at *
      have hmI : (m : Int) < (n : Int) := by omega
      have hm0 : (0 : Int) ≤ (m : Int) := by omega
      have hml' : m < (l.map Co.val).length := by simpa using hml
      rcases (show keyLt t s = true ∨ t = s ∨ keyLt s t = true by
        cases h1 : keyLt t s
        · cases h2 : keyLt s t
          · exact Or.inr (Or.inl (keyLt_tri h1 h2))
          · exact Or.inr (Or.inr rfl)
        · exact Or.inl rfl) with hlt | heq | hgt
      · have g1 : Op.bytesLess t.toList s.toList = true := hlt
        have hTz : T = totalP t ((l.take m).map Co.val) := by rw [HT.out, List.map_take]; exact tot_lo HSO.out hml' (by rw [HX.out]; exact hlt)
        have HI := Lib.hid (IH.out (some ⟨g, o, none⟩) m c (l.take m) W1 (by rw [List.length_take]; omega) (by omega) (by omega) (by omega) (dcoins_take HP1.out m) (by rw [List.map_take]; exact HSO.out.sublist (List.take_sublist _ _)))
        rw [← hTz] at HI
        have hmc : (m : Int) ≤ (c : Int) := by omega
        clear hlt hTz
        go_wp2_with (fail)
        go_at_call 104
        refine HI.out.mono ?_
        rintro e w2 ⟨r, rfl, hB, hE⟩
        have HB2 := Lib.hid hB; have HE2 := Lib.hid hE; have KR2 := Lib.hid (KR1.out.ext hE)
        clear hB hE z0 f0 lz b0 b1 lb c0 c1
        have z0 : w2.cell? ⟨w.heap.size, 0, none⟩ = some (.pointer none) := (KR2.out.cell 0).trans rfl
        have f0 := KR2.out.frozen 0
        have lz := cell_lt z0
        go_wp2
        exact bodyPost_ret (v := .agg #[.pointer (some ⟨r, 0, none⟩)]) (by simp [results, Tryz.results104, go_sem, z0]) rfl ⟨r, rfl, HB2.out.set_ KR2.out 0 _, Only.ext ((EW.out.trans' EW1.out).trans' HE2.out) ((Only.refl _ _).set_ 0 _) (by omega)⟩
      · subst heq
        have hTz : T = z := by rw [HT.out]; have := tot_eq (t := t) HSO.out hml' (by rw [HX.out]); rw [HX.out] at this; exact this
        subst hTz
        have g1 : Op.bytesLess t.toList t.toList = false := keyLt_irrefl t
        go_wp2
        exact bodyPost_ret (v := .agg #[.pointer (some ⟨b, 0, none⟩)]) (by simp [results, Tryz.results104, go_sem, z0]) rfl ⟨b, rfl, (HB.out.ext EW1.out).set_ KR1.out 0 _, Only.ext (EW.out.trans' EW1.out) ((Only.refl _ _).set_ 0 _) (by omega)⟩
      · have g1 : Op.bytesLess t.toList s.toList = false := keyLt_asymm hgt
        have g2 : (t.toList == s.toList) = false := by rw [key_beq]; simp; intro e; subst e; rw [keyLt_irrefl] at hgt; cases hgt
        have hTz : T = totalP t ((l.drop (m + 1)).map Co.val) := by rw [HT.out, List.map_drop]; exact tot_hi HSO.out hml' (by rw [HX.out]; exact hgt)
        have HI := Lib.hid (fun (A : Option Addr) (hA : l.drop (m + 1) ≠ [] → A = some ⟨g, o + (m + 1) * 2, none⟩) (d : Nat) (hd : n - (m + 1) ≤ d) => IH.out A (n - (m + 1)) d (l.drop (m + 1)) W1 (by rw [List.length_drop]; have := HL.out; omega) (by omega) (by omega) hd (by
          refine ⟨fun hn => ?_, (dcoins_drop HP1.out (m + 1)).2⟩
          rw [hA (by intro e; rw [e] at hn; simp at hn)]
          exact (dcoins_drop HP1.out (m + 1)).1 hn) (by rw [List.map_drop]; exact HSO.out.sublist (List.drop_sublist _ _)))
        rw [← hTz] at HI
        have hm2 : (m : Int) + 1 ≤ (n : Int) := by omega
        have hm3 : (n : Int) ≤ (c : Int) := by omega
        have hm4 : (0 : Int) ≤ (m : Int) + 1 := by omega
        clear hgt hTz
        go_wp2_with (fail)
        all_goals
          go_at_call 104
          refine (HI.out _ (fun hn => by first | rfl | exact absurd (List.drop_eq_nil_of_le (by have := HL.out; omega)) hn) _ (by omega)).mono ?_
          rintro e w2 ⟨r, rfl, hB, hE⟩
          have HB2 := Lib.hid hB; have HE2 := Lib.hid hE; have KR2 := Lib.hid (KR1.out.ext hE)
          clear hB hE z0 f0 lz b0 b1 lb c0 c1
          have z0 : w2.cell? ⟨w.heap.size, 0, none⟩ = some (.pointer none) := (KR2.out.cell 0).trans rfl
          have f0 := KR2.out.frozen 0
          have lz := cell_lt z0
          go_wp2
          exact bodyPost_ret (v := .agg #[.pointer (some ⟨r, 0, none⟩)]) (by simp [results, Tryz.results104, go_sem, z0]) rfl ⟨r, rfl, HB2.out.set_ KR2.out 0 _, Only.ext ((EW.out.trans' EW1.out).trans' HE2.out) ((Only.refl _ _).set_ 0 _) (by omega)⟩
end Go.Proofs.YtfocejhcdcnnhaaGreatDoor

namespace Go.Proofs.YtfocejhcdcnnhaaGreatDoor
open Go Go.RowKit

theorem de_zero' : de 0 = .agg #[.bool false, .int .u64 0, .int .u64 0, .int .u64 0, .int .u64 0] := by
  show deV (decide ((0 : Int) < 0)) 0 = _
  unfold deV; rw [dw_zero, dw_zero, dw_zero, dw_zero]; rfl
theorem ext5 {u w : World} {g : Nat} (e : Ext u w) (hg : u.heap.size ≤ g) (a b c d f : Value) : Ext u (((((w.setCell ⟨g, 0, none⟩ a).setCell ⟨g, 1, none⟩ b).setCell ⟨g, 2, none⟩ c).setCell ⟨g, 3, none⟩ d).setCell ⟨g, 4, none⟩ f) := Only.ext e ((Only.refl _ _).five _ _ _ _ _) hg

end Go.Proofs.YtfocejhcdcnnhaaGreatDoor
