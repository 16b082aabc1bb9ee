/-
  The walk of the law FnCoinsText: it returns true.
-/
import Derived.Test.YtfafiahefjimdaaGreatDoorIE
import Derived.Test.YtfafiahefjimdaaGreatDoorHG
namespace Go.Proofs.YtfafiahefjimdaaGreatDoor
open Go Go.RowKit

theorem listB_text {l : List (ByteArray × Int)} (h : listB l = true) : ∀ x ∈ l, x.1.size ≤ 200 ∧ -1099511627776 ≤ x.2 ∧ x.2 ≤ 1099511627776 := by
  unfold listB at h
  rw [decide_eq_true_iff] at h
  intro x hx
  obtain ⟨h1, h2, h3⟩ := h.2 x hx
  unfold denomB at h1
  rw [decide_eq_true_iff] at h1
  exact ⟨by omega, h2, h3⟩

set_option maxRecDepth 100000 in
set_option maxHeartbeats 4000000 in
theorem lawTextC (A0 : Option Addr) (n0 c0 : Nat) (l0 : List (ByteArray × Int)) (w : World) (hl0 : l0.length = n0) (hn0 : n0 ≤ 9223372036854775807) (h0 : PlainAt w A0 l0) (hL : Leaf w) :
    Calls Tryz.prog 10 #[.slice A0 n0 c0] w (RetE (.bool true) w) := by
  have HL0 := Lib.hid hl0; have HN0 := Lib.hid hn0; have HP0 := Lib.hid h0; have HLF := Lib.hid hL
  clear hl0 hn0 h0 hL
  go_enter Tryz.func10, Tryz.ntmps10
  go_wp2_with (fail)
  go_at_call 52
  refine (zFits2 A0 n0 c0 l0 _ HL0.out HN0.out (HP0.out.ext (Ext.refl _))).mono ?_
  rintro e w1 ⟨r, rfl, hf, hE⟩
  have HD1 := Lib.hid hE
  clear hE
  cases r
  · go_wp2_with (fail)
    go_ret
    exact ⟨rfl, (HD1.out)⟩
  have HF0 := Lib.hid (hf rfl); clear hf
  go_wp2_with (fail)
  go_at_call 53
  refine (sIsSumList A0 n0 c0 l0 _ HL0.out HF0.out (HP0.out.ext (HD1.out))).mono ?_
  rintro e w2 ⟨rfl, hE⟩
  have HD2 := Lib.hid (HD1.out.trans' hE)
  clear hE
  cases hb2 : listB l0
  · go_wp2_with (fail)
    go_ret
    exact ⟨rfl, HD2.out⟩
  have HB0 := Lib.hid (listB_text hb2)
  have H80 := Lib.hid (show n0 ≤ 8 from by have := listB_len hb2; have := HL0.out; omega)
  clear hb2
  go_wp2_with (fail)
  go_at_call 55
  refine (lSumTo A0 n0 c0 l0 _ HL0.out (by have := HL0.out; have := H80.out; omega) (HP0.out.ext HD2.out)).mono ?_
  rintro e w4 ⟨v4, rfl, ho4, hE⟩
  obtain ⟨B4, d4, hv, hp⟩ := pown_len ho4 HL0.out
  subst hv
  have HQ4 := Lib.hid hp; clear hp
  have HD4 := Lib.hid (HD2.out.trans' hE)
  clear hE ho4
  have HT := Lib.hid (iTextOf B4 n0 d4 l0 w4 HL0.out (by have := H80.out; omega) HQ4.out HB0.out (HLF.out.ext HD4.out))
  have HS := Lib.hid (fun (W : World) (e : Ext w W) => sSumText A0 n0 c0 l0 W HL0.out (by have := H80.out; omega) HB0.out (HP0.out.ext e))
  obtain ⟨t, ht⟩ : ∃ t, t = strB (sumK l0 n0) := ⟨_, rfl⟩
  rw [← ht] at HT HS
  clear ht
  go_wp2_with (fail)
  go_at_call 54
  refine HT.out.mono ?_
  rintro e w5 ⟨rfl, hE⟩
  have HD5 := Lib.hid (HD4.out.trans' hE)
  clear hE
  go_wp2_with (fail)
  go_at_call 50
  refine (HS.out _ HD5.out).mono ?_
  rintro e w6 ⟨rfl, hE⟩
  have HD6 := Lib.hid (HD5.out.trans' hE)
  clear hE
  go_wp2_with (fail)
  go_at_call 51
  refine (sumAwake _).mono ?_
  rintro e w8 ⟨rfl, hE⟩
  have HD8 := Lib.hid hE
  clear hE
  go_wp2_with (fail)
  go_ret
  exact ⟨rfl, HD6.out.trans' HD8.out⟩
end Go.Proofs.YtfafiahefjimdaaGreatDoor
