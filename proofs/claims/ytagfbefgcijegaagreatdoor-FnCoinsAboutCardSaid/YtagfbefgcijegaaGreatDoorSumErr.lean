/-
  The contracts of the reference's SumErr and of impl.CoinsErr.
-/
import Derived.Test.YtagfbefgcijegaaGreatDoorAbout
import Derived.Test.YtagfbefgcijegaaGreatDoorSpec1
import Derived.Test.YtagfbefgcijegaaGreatDoorFind2
import Derived.BigQuiet
namespace Go.Proofs.YtagfbefgcijegaaGreatDoor
open Go Go.RowKit

theorem ext_ad0 (w : World) (o : Obj) : Ext w (w.alloc o) := Ext.alloc' _ _
theorem ext_ad1 (w : World) (o : Obj) (n : Nat) : Ext w ((w.alloc o).drewN n) := (Ext.alloc' _ _).trans' (Ext.drewN' _ _)
theorem ext_ad2 (w : World) (o : Obj) (n m : Nat) : Ext w (((w.alloc o).drewN n).drewN m) := ((Ext.alloc' _ _).trans' (Ext.drewN' _ _)).trans' (Ext.drewN' _ _)
/-- The words of the first thing that is wrong. -/
def RetWords (l : List (ByteArray × Int)) (w : World) (e : Ending) (w' : World) : Prop := ∃ o, ErrIs l o ∧ e = .returned (.string (o.getD ⟨#[]⟩)) ∧ Ext w w'
theorem errs_some {l : List (ByteArray × Int)} {k : Nat} {t : ByteArray} (h : ∀ j, j < k → errAt l j = none) (e : errAt l k = some t) : ErrIs l (some t) := ⟨k, e, h⟩
theorem errs_step {l : List (ByteArray × Int)} {k : Nat} (h : ∀ j, j < k → errAt l j = none) (e : errAt l k = none) : ∀ j, j < k + 1 → errAt l j = none := fun j hj => by
  by_cases f : j = k
  · subst f; exact e
  · exact h j (by omega)

set_option maxRecDepth 100000 in
set_option maxHeartbeats 4000000 in
theorem sSumErr (A : Option Addr) (n c : Nat) (l : List (ByteArray × Int)) (w : World) (hl : l.length = n) (hf : Fits n l) (h : PlainAt w A l) :
    Calls Tryz.prog 51 #[.slice A n c] w (RetWords l w) := by
  obtain ⟨hn, hsz⟩ := hf
  have HL := Lib.hid hl; have HP := Lib.hid h; have HSZ := Lib.hid hsz
  clear hl h hsz
  go_enter Tryz.func51, Tryz.ntmps51
  go_wp2
  go_loopw [7] (fun i wr => ∃ (k : Nat), k ≤ n ∧ i = .int .i64 k ∧ (∀ j, j < k → errAt l j = none) ∧ Ext w wr) (fun i _ => n - (intOf i).toNat)
  case atStart => exact ⟨0, Nat.zero_le _, rfl, fun j h => absurd h (Nat.not_lt_zero _), Ext.refl _⟩
  case round =>
    obtain ⟨k, hk, rfl, hq, hE⟩ := hrel
    have HQ := Lib.hid hq; have HE := Lib.hid hE
    clear hq hE
    by_cases hlt : k < n
    · have hkl : k < l.length := by rw [HL.out]; exact hlt
      obtain ⟨s, hs⟩ : ∃ s, s = l[k].1 := ⟨_, rfl⟩
      obtain ⟨z, hzz⟩ : ∃ z, z = l[k].2 := ⟨_, rfl⟩
      obtain ⟨g, o, hA, hc⟩ := HP.out (by intro e; have := congrArg List.length e; simp at this; rw [this] at hkl; simp at hkl)
      subst hA
      have HC := Lib.hid hc
      have hck := hc k (by simpa using hkl)
      have cs0 : wr.cell? ⟨g, o + k * 2, none⟩ = some (.string s) := HE.out.cell' (by rw [hck.1, hs]; simp [plain])
      have cs1 : wr.cell? ⟨g, o + k * 2 + 1, none⟩ = some (.int .i64 z) := HE.out.cell' (by rw [hck.2, hzz]; simp [plain])
      have HD := Lib.hid (fun W : World => sDenom s W (by rw [hs]; have := HSZ.out _ (List.getElem_mem hkl); omega))
      have HX := Lib.hid (show l[k] = (s, z) by rw [hs, hzz])
      clear hs hzz hck hc
      obtain ⟨r, hr⟩ : ∃ r, r = denomB s := ⟨_, rfl⟩
      rw [← hr] at HD
      have HR := Lib.hid hr.symm; clear hr
      rcases k with _ | m
      · have FX := Lib.hid (show errAt l 0 = errOne none (s, z) by rw [errAt_zero hkl, HX.out])
        have cs0' : wr.cell? ⟨g, o, none⟩ = some (.string s) := by simpa using cs0
        have cs1' : wr.cell? ⟨g, o + 1, none⟩ = some (.int .i64 z) := by simpa using cs1
        clear cs0 cs1
        cases r
        · have F := Lib.hid (errs_some HQ.out (FX.out.trans (show errOne none (s, z) = some invDenom by unfold errOne; rw [if_pos HR.out])))
          go_wp2_with (first | (go_at_call 32; (with_reducible refine (HD.out _).mono ?_); rintro e w1 ⟨rfl, rfl⟩))
          go_ret
          exact ⟨some invDenom, F.out, rfl, HE.out.trans' (by first | exact ext_ad0 _ _ | exact ext_ad1 _ _ _ | exact ext_ad2 _ _ _ _)⟩
        · by_cases hz1 : z ≤ 0
          · have F := Lib.hid (errs_some HQ.out (FX.out.trans (show errOne none (s, z) = some notPos by unfold errOne; rw [if_neg (by rw [HR.out]; simp)]; exact if_pos hz1)))
            have d1 : decide (z ≤ 0) = true := by simpa using hz1
            go_wp2_with (first | (go_at_call 32; (with_reducible refine (HD.out _).mono ?_); rintro e w1 ⟨rfl, rfl⟩))
            go_quiet (fail)
            go_wp2
            go_quiet (fail)
            go_wp2
            go_ret
            exact ⟨some notPos, F.out, rfl, HE.out.trans' (by first | exact ext_ad0 _ _ | exact ext_ad1 _ _ _ | exact ext_ad2 _ _ _ _)⟩
          · have ST := Lib.hid (errs_step HQ.out (FX.out.trans (show errOne none (s, z) = none by unfold errOne; rw [if_neg (by rw [HR.out]; simp)]; exact if_neg hz1)))
            have d1 : decide (z ≤ 0) = false := by simpa using hz1
            go_wp2_with (first | (go_at_call 32; (with_reducible refine (HD.out _).mono ?_); rintro e w1 ⟨rfl, rfl⟩))
            go_quiet (fail)
            go_wp2
            go_quiet (fail)
            go_wp2
            go_roundw
            case rel => exact ⟨0 + 1, by omega, by go_num, ST.out, HE.out.trans' (by first | exact ext_ad0 _ _ | exact ext_ad1 _ _ _ | exact ext_ad2 _ _ _ _)⟩
            case measure => simp [intOf]; omega
      · obtain ⟨t, ht⟩ : ∃ t, t = l[m].1 := ⟨_, rfl⟩
        have ct0 : wr.cell? ⟨g, o + m * 2, none⟩ = some (.string t) := HE.out.cell' (by rw [(HC.out m (by simp; omega)).1, ht]; simp [plain])
        have FX := Lib.hid (show errAt l (m + 1) = errOne (some t) (s, z) by rw [errAt_succ hkl, HX.out, ht])
        clear ht
        have gl := cell_lt ct0
        have b0 : (0 : Int) ≤ (m : Int) := by omega
        have b1 : (m : Int) < (n : Int) := by omega
        have hm5 : IntKind.i64.wrap (m : Int) = (m : Int) := by rw [IntKind.wrap_i64]; omega
        cases r
        · have F := Lib.hid (errs_some HQ.out (FX.out.trans (show errOne (some t) (s, z) = some invDenom by unfold errOne; rw [if_pos HR.out])))
          go_wp2_with (first | (go_at_call 32; (with_reducible refine (HD.out _).mono ?_); rintro e w1 ⟨rfl, rfl⟩))
          go_ret
          exact ⟨some invDenom, F.out, rfl, HE.out.trans' (by first | exact ext_ad0 _ _ | exact ext_ad1 _ _ _ | exact ext_ad2 _ _ _ _)⟩
        · cases h1 : keyLt s t
          · have g1 : Op.bytesLess s.toList t.toList = false := h1
            by_cases h2 : s = t
            · subst h2
              have F := Lib.hid (errs_some HQ.out (FX.out.trans (show errOne (some s) (s, z) = some duplDenom by unfold errOne; rw [if_neg (by rw [HR.out]; simp)]; show (if keyLt s s = true then _ else _) = _; rw [if_neg (by rw [h1]; simp), if_pos rfl])))
              clear h1
              go_wp2_with (first | (go_at_call 32; (with_reducible refine (HD.out _).mono ?_); rintro e w1 ⟨rfl, rfl⟩))
              go_quiet (fail)
              go_wp2
              go_quiet (fail)
              go_wp2
              go_ret
              exact ⟨some duplDenom, F.out, rfl, HE.out.trans' (by first | exact ext_ad0 _ _ | exact ext_ad1 _ _ _ | exact ext_ad2 _ _ _ _)⟩
            · have g2 : (s.toList == t.toList) = false := by rw [key_beq]; simpa using h2
              by_cases hz1 : z ≤ 0
              · have F := Lib.hid (errs_some HQ.out (FX.out.trans (show errOne (some t) (s, z) = some notPos by unfold errOne; rw [if_neg (by rw [HR.out]; simp)]; show (if keyLt s t = true then _ else _) = _; rw [if_neg (by rw [h1]; simp), if_neg h2, if_pos hz1])))
                have d1 : decide (z ≤ 0) = true := by simpa using hz1
                clear h1 h2
                go_wp2_with (first | (go_at_call 32; (with_reducible refine (HD.out _).mono ?_); rintro e w1 ⟨rfl, rfl⟩))
                go_quiet (fail)
                go_wp2
                go_quiet (fail)
                go_wp2
                go_ret
                exact ⟨some notPos, F.out, rfl, HE.out.trans' (by first | exact ext_ad0 _ _ | exact ext_ad1 _ _ _ | exact ext_ad2 _ _ _ _)⟩
              · have ST := Lib.hid (errs_step HQ.out (FX.out.trans (show errOne (some t) (s, z) = none by unfold errOne; rw [if_neg (by rw [HR.out]; simp)]; show (if keyLt s t = true then _ else _) = _; rw [if_neg (by rw [h1]; simp), if_neg h2, if_neg hz1])))
                have d1 : decide (z ≤ 0) = false := by simpa using hz1
                clear h1 h2
                go_wp2_with (first | (go_at_call 32; (with_reducible refine (HD.out _).mono ?_); rintro e w1 ⟨rfl, rfl⟩))
                go_quiet (fail)
                go_wp2
                go_quiet (fail)
                go_wp2
                go_roundw
                case rel => exact ⟨m + 1 + 1, by omega, by go_num, ST.out, HE.out.trans' (by first | exact ext_ad0 _ _ | exact ext_ad1 _ _ _ | exact ext_ad2 _ _ _ _)⟩
                case measure => simp [intOf]; omega
          · have g1 : Op.bytesLess s.toList t.toList = true := h1
            have F := Lib.hid (errs_some HQ.out (FX.out.trans (show errOne (some t) (s, z) = some notSorted by unfold errOne; rw [if_neg (by rw [HR.out]; simp)]; show (if keyLt s t = true then _ else _) = _; rw [if_pos h1])))
            clear h1
            go_wp2_with (first | (go_at_call 32; (with_reducible refine (HD.out _).mono ?_); rintro e w1 ⟨rfl, rfl⟩))
            go_quiet (fail)
            go_wp2
            go_ret
            exact ⟨some notSorted, F.out, rfl, HE.out.trans' (by first | exact ext_ad0 _ _ | exact ext_ad1 _ _ _ | exact ext_ad2 _ _ _ _)⟩
    · obtain rfl : k = n := by omega
      have F := Lib.hid (show ErrIs l none from fun j => by
        rcases Nat.lt_or_ge j k with e | e
        · exact HQ.out j e
        · exact errAt_out (by rw [HL.out]; exact e))
      go_wp2
      go_ret
      exact ⟨none, F.out, rfl, HE.out⟩

set_option maxRecDepth 100000 in
theorem iCoinsErr (A : Option Addr) (n c : Nat) (l : List (ByteArray × Int)) (w : World) (hl : l.length = n) (hn : n ≤ 1000) (h : PlainAt w A l) (hz : ∀ x ∈ l, -maxI ≤ x.2 ∧ x.2 ≤ maxI) (hsz : ∀ x ∈ l, x.1.size ≤ maxLen) :
    Calls Tryz.prog 52 #[.slice A n c] w (RetWords l w) := by
  have H1 := Lib.hid (iCoins A n c l w hl (by omega) h hz)
  have HL := Lib.hid hl; have HSZ := Lib.hid hsz
  clear hl h hz hsz
  go_enter Tryz.func52, Tryz.ntmps52
  go_wp2_with (fail)
  go_at_call 72
  refine H1.out.mono ?_
  rintro e w1 ⟨v, cs, rfl, hcv, hown, hE⟩
  obtain ⟨A1, c1, rfl, hc1, hc2⟩ := own_cap2 hown.1
  have HO := Lib.hid (own_at hown).1; have HV := Lib.hid hcv; have HE := Lib.hid hE; have HN := Lib.hid (show cs.length = n by rw [← HL.out, ← hcv]; simp); have HC := Lib.hid (And.intro hc1 hc2)
  clear hown hcv hE hc1 hc2
  have HSC := Lib.hid (show ∀ x ∈ cs, x.s.size ≤ 9223372036854775807 from fun x hx => by
    have := HSZ.out x.val (by rw [← HV.out]; exact List.mem_map_of_mem hx)
    unfold maxLen at this; exact Nat.le_trans this (by decide))
  go_wp2_with (fail)
  go_at_call 103
  refine (tValidate A1 cs.length c1 cs _ rfl (by have := HN.out; omega) HC.out.1 HC.out.2 HO.out HSC.out).mono ?_
  rintro e w2 ⟨o, ho, hr⟩
  rw [HV.out] at ho
  have HOO := Lib.hid ho; clear ho
  cases o with
  | none =>
    obtain ⟨rfl, hE⟩ := hr
    have HE2 := Lib.hid hE; clear hE
    go_wp2_with (first | (go_at_call 102; refine (iWordNil _).mono ?_; rintro e w3 ⟨rfl, rfl⟩))
    go_ret
    exact ⟨none, HOO.out, rfl, HE.out.trans' HE2.out⟩
  | some t =>
    obtain ⟨b, rfl, hB, hE⟩ := hr
    have HE2 := Lib.hid hE; have HB := Lib.hid hB; clear hE hB
    go_wp2_with (first | (go_at_call 102; refine (iWordErr t b _ HB.out).mono ?_; rintro e w3 ⟨rfl, rfl⟩))
    go_ret
    exact ⟨some t, HOO.out, rfl, HE.out.trans' HE2.out⟩
end Go.Proofs.YtagfbefgcijegaaGreatDoor
