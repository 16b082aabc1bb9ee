/-
  The walk of the law FnCoinsNew: it returns true.
-/
import Derived.Test.YtagfbefgcijegaaGreatDoorLKit
import Derived.Test.YtagfbefgcijegaaGreatDoorSpec3
import Derived.Test.YtagfbefgcijegaaGreatDoorSet
import Derived.Test.YtagfbefgcijegaaGreatDoorNew2
namespace Go.Proofs.YtagfbefgcijegaaGreatDoor
open Go Go.RowKit

set_option maxRecDepth 100000 in
set_option maxHeartbeats 4000000 in
theorem lawNew (A0 : Option Addr) (n0 c0 : Nat) (l0 : List (ByteArray × Int)) (w : World) (hl0 : l0.length = n0) (hn0 : n0 ≤ 9223372036854775807) (h0 : PlainAt w A0 l0) :
    Calls Tryz.prog 8 #[.slice A0 n0 c0] w (RetE (.bool true) w) := by
  have HL0 := Lib.hid hl0; have HN0 := Lib.hid hn0; have HP0 := Lib.hid h0
  clear hl0 hn0 h0
  go_enter Tryz.func8, Tryz.ntmps8
  go_wp2_with (fail)
  go_at_call 19
  refine (zFits2 A0 n0 c0 l0 _ HL0.out HN0.out (HP0.out.ext (Ext.refl _))).mono ?_
  rintro e w1 ⟨r, rfl, hf, hE⟩
  have HD1 := Lib.hid hE
  clear hE
  cases r
  · go_wp2_with (fail)
    go_ret
    exact ⟨rfl, (HD1.out)⟩
  have HF0 := Lib.hid (hf rfl); clear hf
  go_wp2_with (fail)
  go_at_call 20
  refine (sIsSumList A0 n0 c0 l0 _ HL0.out HF0.out (HP0.out.ext (HD1.out))).mono ?_
  rintro e w2 ⟨rfl, hE⟩
  have HD2 := Lib.hid hE
  clear hE
  cases hb2 : listB l0
  · go_wp2_with (fail)
    go_ret
    exact ⟨rfl, ((HD1.out).trans' HD2.out)⟩
  have HB0 := Lib.hid hb2; clear hb2
  go_wp2_with (fail)
  have H80 := Lib.hid (show n0 ≤ 8 from by have := listB_len HB0.out; have := HL0.out; omega)
  go_at_call 39
  refine (sSumWithout A0 n0 c0 l0 _ HL0.out (by have := HL0.out; have := H80.out; omega) (HP0.out.ext ((HD1.out).trans' HD2.out))).mono ?_
  rintro e w3 ⟨v3, rfl, ho3, hE⟩
  obtain ⟨f, hf⟩ : ∃ f, f = l0.filter (fun x => x.2 ≠ 0) := ⟨_, rfl⟩
  rw [← hf] at ho3
  obtain ⟨B3, d3, hv, hp⟩ := pown_len ho3 rfl
  subst hv
  have HQ3 := Lib.hid hp; clear hp
  have HD3 := Lib.hid hE
  have HFL := Lib.hid hf
  have HXF := Lib.hid (show f.length ≤ n0 from by rw [hf, ← HL0.out]; exact List.length_filter_le _ _)
  clear hE ho3 hf
  go_wp2_with (fail)
  go_at_call 31
  refine (sSumSorted B3 f.length d3 f _ rfl (by have := HL0.out; have := H80.out; have := HXF.out; omega) HQ3.out).mono ?_
  rintro e w4 ⟨r4, ⟨v4, rfl, ho4, hE⟩, hr4⟩
  obtain ⟨B4, d4, hv, hp⟩ := pown_len ho4 rfl
  subst hv
  have HQ4 := Lib.hid hp; clear hp
  have HD4 := Lib.hid hE
  have HR4 := Lib.hid hr4
  clear hE ho4 hr4
  have HXS := Lib.hid (show r4.length ≤ n0 from by rw [HR4.out.1.length_eq]; exact HXF.out)
  go_wp2_with (fail)
  go_at_call 22
  refine (lSumTo A0 n0 c0 l0 _ HL0.out (by have := HL0.out; have := H80.out; have := HXF.out; have := HXS.out; omega) (HP0.out.ext ((((HD1.out).trans' HD2.out).trans' HD3.out).trans' HD4.out))).mono ?_
  rintro e w5 ⟨v5, rfl, ho5, hE⟩
  obtain ⟨B5, d5, hv, hp⟩ := pown_len ho5 HL0.out
  subst hv
  have HQ5 := Lib.hid hp; clear hp
  have HD5 := Lib.hid hE
  clear hE ho5
  go_wp2_with (fail)
  go_at_call 40
  refine (iNewOf B5 n0 d5 l0 _ HL0.out (by have := HL0.out; have := H80.out; have := HXF.out; have := HXS.out; omega) HQ5.out (listB_max HB0.out) (fits_size HF0.out)).mono ?_
  intro e w6 h
  obtain ⟨hE, hr⟩ := newof_fact h (HFL.out ▸ HR4.out.1) HR4.out.2
  have HD6 := Lib.hid hE
  clear hE h
  have HFS := Lib.hid (fits_of HF0.out (r := r4) (fun x hx => (List.mem_filter.1 (HFL.out ▸ HR4.out.1.mem_iff.1 hx)).1) (by have := HL0.out; have := H80.out; have := HXF.out; have := HXS.out; omega))
  rcases hr with ⟨hb, v, rfl, ho⟩ | ⟨hb, rfl⟩
  · have HBB := Lib.hid hb; clear hb
    obtain ⟨B6, d6, hv, hp⟩ := pown_len ho rfl
    subst hv
    have HQ6 := Lib.hid hp; clear hp
    clear ho
    go_wp2_with (fail)
    go_at_call 41
    refine (sIsSum B4 r4.length d4 r4 _ rfl HFS.out (HQ4.out.ext ((HD5.out).trans' HD6.out))).mono ?_
    rintro e w7 ⟨rfl, hE⟩
    have HD7 := Lib.hid hE
    clear hE
    rw [HBB.out]
    go_wp2_with (fail)
    go_at_call 26
    refine (lSumFrom B6 r4.length d6 r4 _ rfl (by have := HL0.out; have := H80.out; have := HXF.out; have := HXS.out; omega) (HQ6.out.ext (HD7.out))).mono ?_
    rintro e w8 ⟨v8, rfl, ho8, hE⟩
    obtain ⟨B8, d8, hv, hp⟩ := pown_len ho8 rfl
    subst hv
    have HQ8 := Lib.hid hp; clear hp
    have HD8 := Lib.hid hE
    clear hE ho8
    go_wp2_with (fail)
    go_at_call 25
    refine (sSumSame B8 B4 r4.length d8 r4.length d4 r4 r4 _ rfl rfl (by have := HL0.out; have := H80.out; have := HXF.out; have := HXS.out; omega) (by have := HL0.out; have := H80.out; have := HXF.out; have := HXS.out; omega) HQ8.out (HQ4.out.ext ((((HD5.out).trans' HD6.out).trans' HD7.out).trans' HD8.out))).mono ?_
    rintro e w9 ⟨rfl, hE⟩
    have HD9 := Lib.hid (ext_q hE)
    clear hE
    rw [decide_eq_true rfl]
    go_wp2_with (fail)
    go_at_call 24
    refine (sumAwake _).mono ?_
    rintro e w10 ⟨rfl, hE⟩
    have HD10 := Lib.hid hE
    clear hE
    go_wp2_with (fail)
    go_ret
    exact ⟨rfl, ((((((((((HD1.out).trans' HD2.out).trans' HD3.out).trans' HD4.out).trans' HD5.out).trans' HD6.out).trans' HD7.out).trans' HD8.out).trans' HD9.out).trans' HD10.out)⟩
  · have HBB := Lib.hid hb; clear hb
    go_wp2_with (fail)
    go_at_call 41
    refine (sIsSum B4 r4.length d4 r4 _ rfl HFS.out (HQ4.out.ext ((HD5.out).trans' HD6.out))).mono ?_
    rintro e w7 ⟨rfl, hE⟩
    have HD7 := Lib.hid hE
    clear hE
    rw [HBB.out]
    go_wp2_with (fail)
    go_at_call 24
    refine (sumAwake _).mono ?_
    rintro e w8 ⟨rfl, hE⟩
    have HD8 := Lib.hid hE
    clear hE
    go_wp2_with (fail)
    go_ret
    exact ⟨rfl, ((((((((HD1.out).trans' HD2.out).trans' HD3.out).trans' HD4.out).trans' HD5.out).trans' HD6.out).trans' HD7.out).trans' HD8.out)⟩
end Go.Proofs.YtagfbefgcijegaaGreatDoor
