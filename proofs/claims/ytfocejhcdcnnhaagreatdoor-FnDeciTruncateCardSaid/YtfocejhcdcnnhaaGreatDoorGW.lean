/-
  The specification's DeciOneErr and DeciErr.
  The specification's DeciSome and DeciNegative.
-/
import Derived.Test.YtfocejhcdcnnhaaGreatDoorGT
import Derived.Test.YtfocejhcdcnnhaaGreatDoorGV
import Derived.BigQuiet
import Derived.Test.YtfocejhcdcnnhaaGreatDoorGQ
namespace Go.Proofs.YtfocejhcdcnnhaaGreatDoor
open Go Go.RowKit

/-- A decimal coin of the specification. -/
abbrev deCV (s : ByteArray) (z : Int) : Value := .agg #[.string s, .bool (decide (z < 0)), dw z.natAbs 0, dw z.natAbs 1, dw z.natAbs 2, dw z.natAbs 3]
theorem six_cells {W : World} {g : Nat} {T : TypeId} {a b c d e f : Value} (h : Blk W g T [a, b, c, d, e, f]) : W.cell? ⟨g, 0, none⟩ = some a ∧ W.cell? ⟨g, 1, none⟩ = some b ∧ W.cell? ⟨g, 2, none⟩ = some c ∧ W.cell? ⟨g, 3, none⟩ = some d ∧ W.cell? ⟨g, 4, none⟩ = some e ∧ W.cell? ⟨g, 5, none⟩ = some f ∧ g < W.heap.size :=
  ⟨(h.cell 0).trans rfl, (h.cell 1).trans rfl, (h.cell 2).trans rfl, (h.cell 3).trans rfl, (h.cell 4).trans rfl, (h.cell 5).trans rfl, h.lt⟩

set_option maxRecDepth 100000 in
theorem sOneErr (s : ByteArray) (z : Int) (w : World) (hs : s.size ≤ 9223372036854775807) (hz : z.natAbs < B64 ^ 4) :
    Calls Tryz.prog 36 #[deCV s z] w (RetE (.string (errText (dOneErr (s, z)))) w) := by
  have HD := Lib.hid (fun W => sDeDenom s W hs)
  have HS := Lib.hid (fun W => sSign z W hz)
  unfold de deV at HS
  obtain ⟨x0, x1, x2, x3, e0, e1, e2, e3, -⟩ := words_of z.natAbs
  unfold deCV
  rw [e0, e1, e2, e3] at HS ⊢
  obtain ⟨bz, hbz⟩ : ∃ b, b = decide (z < 0) := ⟨_, rfl⟩
  rw [← hbz] at HS ⊢
  clear e0 e1 e2 e3 hs hz
  cases hd : denomB s
  · have F := Lib.hid (show errText (dOneErr (s, z)) = invDenom by unfold dOneErr; rw [if_pos hd]; rfl)
    rw [hd] at HD
    clear hd hbz
    rw [F.out]
    go_enter Tryz.func36, Tryz.ntmps36
    go_wp2_with (go_at_call 57; refine (HD.out _).mono ?_; rintro e w1 ⟨rfl, rfl⟩)
    go_ret
    exact ⟨rfl, ext1 _ _⟩
  · rw [hd] at HD
    cases bz
    · have hn := of_decide_eq_false hbz.symm
      have F := Lib.hid (show errText (dOneErr (s, z)) = ⟨#[]⟩ by unfold dOneErr; rw [if_neg (by rw [hd]; simp), if_neg hn]; rfl)
      rw [F.out]
      have G : 0 ≤ sgn z := by unfold sgn; rw [if_neg hn]; split <;> omega
      clear hd hbz hn
      obtain ⟨q, hq⟩ : ∃ q, q = sgn z := ⟨_, rfl⟩
      rw [← hq] at HS G
      clear hq
      have G' : ¬ q < 0 := by omega
      go_enter Tryz.func36, Tryz.ntmps36
      go_wp2_with (first | (go_at_call 57; refine (HD.out _).mono ?_; rintro e w1 ⟨rfl, hw⟩; subst hw) | (go_at_call 21; refine (HS.out _).mono ?_; rintro e w2 ⟨rfl, hE⟩; have HE := Lib.hid hE; clear hE))
      go_ret
      exact ⟨rfl, (ext1 _ _).trans' HE.out⟩
    · have hn := of_decide_eq_true hbz.symm
      have F := Lib.hid (show errText (dOneErr (s, z)) = dBelow by unfold dOneErr; rw [if_neg (by rw [hd]; simp), if_pos hn]; rfl)
      rw [F.out]
      rw [show sgn z = -1 by unfold sgn; rw [if_pos hn]] at HS
      clear hd hbz hn
      go_enter Tryz.func36, Tryz.ntmps36
      go_wp2_with (first | (go_at_call 57; refine (HD.out _).mono ?_; rintro e w1 ⟨rfl, hw⟩; subst hw) | (go_at_call 21; refine (HS.out _).mono ?_; rintro e w2 ⟨rfl, hE⟩; have HE := Lib.hid hE; clear hE))
      go_ret
      exact ⟨rfl, (ext1 _ _).trans' HE.out⟩

theorem seenB_none {S : List ByteArray} {s : ByteArray} (h : ∀ t ∈ S, t ≠ s) : seenB S s = false := by
  rw [Bool.eq_false_iff]; intro k; exact h s ((seenB_iff S s).1 k) rfl

set_option maxRecDepth 100000 in
set_option maxHeartbeats 4000000 in
theorem sErr (A : Option Addr) (n c : Nat) (l : List (ByteArray × Int)) (w : World) (hl : l.length = n) (hn : n ≤ 100000) (hc : n ≤ c) (h : DeAt w A l) (hsz : ∀ x ∈ l, x.1.size ≤ 9223372036854775807) (hz : ∀ x ∈ l, x.2.natAbs < B64 ^ 4) :
    Calls Tryz.prog 26 #[.slice A n c] w (RetE (.string (errText (dErr [] l))) w) := by
  have HL := Lib.hid hl; have HP := Lib.hid h; have HSZ := Lib.hid hsz; have HZ := Lib.hid hz
  obtain ⟨G, hG⟩ : ∃ G, G = dErr [] l := ⟨_, rfl⟩
  have HG := Lib.hid hG
  rw [← hG]
  clear hl h hsz hz hG
  go_enter Tryz.func26, Tryz.ntmps26
  go_wp2
  go_loopw [9] (fun i wr => ∃ k : Nat, k ≤ n ∧ i = .int .i64 k ∧ dErr ((l.take k).map Prod.fst) (l.drop k) = G ∧ Ext w wr) (fun i _ => n - (intOf i).toNat)
  case atStart => exact ⟨0, Nat.zero_le _, rfl, by rw [HG.out]; rfl, Ext.refl _⟩
  case round =>
    obtain ⟨k, hk, rfl, hq, hE⟩ := hrel
    obtain ⟨W1, hW1⟩ : ∃ W1, W1 = wr := ⟨_, rfl⟩
    subst hW1
    have HQ := Lib.hid hq; have HE := Lib.hid hE
    clear hq hE
    by_cases hlt : k < n
    · have hkl : k < l.length := by rw [HL.out]; exact hlt
      obtain ⟨s, hs⟩ : ∃ s, s = l[k].1 := ⟨_, rfl⟩
      obtain ⟨z, hzz⟩ : ∃ z, z = l[k].2 := ⟨_, rfl⟩
      have HX := Lib.hid (show l[k] = (s, z) by rw [hs, hzz])
      obtain ⟨S, hS⟩ : ∃ S, S = (l.take k).map Prod.fst := ⟨_, rfl⟩
      have HSD := Lib.hid hS
      have FX := Lib.hid (show dErr S ((s, z) :: l.drop (k + 1)) = G by rw [← HX.out, ← List.drop_eq_getElem_cons hkl, hS]; exact HQ.out)
      have FS := Lib.hid (show S ++ [s] = (l.take (k + 1)).map Prod.fst by rw [hS, List.take_succ_eq_append_getElem hkl, List.map_append, HX.out]; rfl)
      obtain ⟨g, o, hA, hcc⟩ := HP.out (by intro e; rw [e] at hkl; simp at hkl)
      subst hA
      have HCC := Lib.hid hcc
      have hck := de_get hkl (fun j hj i u hu => HE.out.cell' (hcc j hj i u hu)) HX.out
      have hzk : z.natAbs < B64 ^ 4 := by rw [hzz]; exact HZ.out _ (List.getElem_mem hkl)
      have hsk : s.size ≤ 9223372036854775807 := by rw [hs]; exact HSZ.out _ (List.getElem_mem hkl)
      have HDN := Lib.hid (fun W => sDeDenom s W hsk)
      have HSG := Lib.hid (fun W => sSign z W hzk)
      unfold de deV at HSG
      obtain ⟨x0, x1, x2, x3, e0, e1, e2, e3, -⟩ := words_of z.natAbs
      rw [e0, e1, e2, e3] at HSG hck
      obtain ⟨bz, hbz⟩ : ∃ b, b = decide (z < 0) := ⟨_, rfl⟩
      rw [← hbz] at HSG hck
      clear e0 e1 e2 e3 hsk hzk hbz hs hzz hS hcc
      obtain ⟨c0, c1, c2, c3, c4, c5⟩ := hck
      have gl := cell_lt c0
      have b0 : (0 : Int) ≤ (k : Int) := by omega
      have b1 : (k : Int) ≤ (c : Int) := by omega
      have b2 : (k : Int) < (n : Int) := by omega
      obtain ⟨W2, hW2⟩ : ∃ W2, W2 = W1.alloc (.cells #[.string s, .bool bz, .int .u64 x0, .int .u64 x1, .int .u64 x2, .int .u64 x3] 53) := ⟨_, rfl⟩
      have K4 := Lib.hid (show Blk W2 W1.heap.size 53 [.string s, .bool bz, .int .u64 x0, .int .u64 x1, .int .u64 x2, .int .u64 x3] by rw [hW2]; exact blk_new0 W1 _ [.string s, .bool bz, .int .u64 x0, .int .u64 x1, .int .u64 x2, .int .u64 x3])
      have E2 := Lib.hid (show Ext w W2 by rw [hW2]; exact HE.out.trans' (ext1 _ _))
      have HW2 := Lib.hid hW2; clear hW2
      go_wp2
      rw [← HW2.out]
      generalize W1.heap.size = q at *
      go_loopw [18] (fun i wz => ∃ j : Nat, j ≤ k ∧ i = .int .i64 j ∧ (∀ t ∈ (l.take j).map Prod.fst, t ≠ s) ∧ Ext W2 wz) (fun i _ => k - (intOf i).toNat)
      case atStart => exact ⟨0, Nat.zero_le _, rfl, (fun t ht => by simp at ht), Ext.refl _⟩
      case round =>
        obtain ⟨j, hj, rfl, hjs, hE⟩ := hrel
        have HJS := Lib.hid hjs; have HEJ := Lib.hid hE
        clear hjs hE
        obtain ⟨d0, d1, d2, d3, d4, d5, ld⟩ := six_cells (K4.out.ext HEJ.out)
        by_cases hjk : j < k
        · have hjl : j < l.length := by omega
          obtain ⟨t, ht⟩ : ∃ t, t = l[j].1 := ⟨_, rfl⟩
          obtain ⟨y, hy⟩ : ∃ y, y = l[j].2 := ⟨_, rfl⟩
          have hcj := de_get hjl (fun j hj i u hu => (E2.out.trans' HEJ.out).cell' (HCC.out j hj i u hu)) (show l[j] = (t, y) by rw [ht, hy])
          obtain ⟨a0, a1, a2, a3, a4, a5⟩ := hcj
          obtain ⟨y0, y1, y2, y3, e0, e1, e2, e3, -⟩ := words_of y.natAbs
          rw [e0] at a2; rw [e1] at a3; rw [e2] at a4; rw [e3] at a5
          have gj := cell_lt a0
          clear e0 e1 e2 e3 hy c0 c1 c2 c3 c4 c5
          have HTJ := Lib.hid ht; clear ht
          by_cases hts : t = s
          · have F := Lib.hid (show G = some dDupl by
              rw [← FX.out]
              refine dErr_some (dErrOne_dup ((seenB_iff _ _).2 ?_))
              rw [HSD.out, ← hts, HTJ.out]
              exact List.mem_map_of_mem (List.mem_take_iff_getElem.2 ⟨j, by omega, rfl⟩))
            have heq : (t.toList == s.toList) = true := by rw [hts]; simp
            clear hts
            go_wp2
            go_ret
            rw [F.out]; exact ⟨rfl, E2.out.trans' (HEJ.out.trans' (ext1 _ _))⟩
          · have heq : (t.toList == s.toList) = false := by rw [key_beq]; simpa using hts
            have HTS := Lib.hid hts; clear hts
            go_wp2
            go_roundw
            case rel =>
              refine ⟨j + 1, by omega, by go_num, fun u hu => ?_, HEJ.out.trans' (ext1 _ _)⟩
              rw [List.take_succ_eq_append_getElem hjl, List.map_append, List.mem_append] at hu
              rcases hu with hu | hu
              · exact HJS.out u hu
              · rw [List.map_cons, List.map_nil, List.mem_singleton] at hu
                rw [hu, ← HTJ.out]; exact HTS.out
            case measure => simp [intOf]; omega
        · have hjk' : k = j := by omega
          subst hjk'
          have HNS := Lib.hid (show seenB S s = false by rw [HSD.out]; exact seenB_none HJS.out)
          have EJ := Lib.hid (E2.out.trans' HEJ.out)
          clear c0 c1 c2 c3 c4 c5
          cases hd : denomB s
          · have F := Lib.hid (show G = some invDenom by rw [← FX.out]; exact dErr_some (dErrOne_inv HNS.out hd))
            rw [hd] at HDN
            clear hd
            go_wp2_with (go_at_call 57; refine (HDN.out _).mono ?_; rintro e w1 ⟨rfl, hw⟩; subst hw)
            go_ret
            rw [F.out]; exact ⟨rfl, EJ.out⟩
          · rw [hd] at HDN
            have HDD := Lib.hid hd; clear hd
            go_wp2_with (go_at_call 57; refine (HDN.out _).mono ?_; rintro e w1 ⟨rfl, hw⟩; subst hw)
            rcases (by omega : k = 0 ∨ 0 < k) with hk0 | hk0
            · subst hk0
              have FE := Lib.hid (show dErrOne S (s, z) = if z ≤ 0 then some dNotPos else none from by
                              rw [HSD.out]; unfold dErrOne; rw [if_neg (by simp [seenB]), if_neg (by rw [HDD.out]; simp)]; rfl)
              obtain ⟨sg, hsg⟩ : ∃ sg, sg = sgn z := ⟨_, rfl⟩
              rw [← hsg] at HSG
              by_cases hp : z ≤ 0
              · have F := Lib.hid (show G = some dNotPos by rw [← FX.out]; exact dErr_some (by rw [FE.out, if_pos hp]))
                have hs0 : sg ≤ 0 := by rw [hsg]; unfold sgn; split; omega; rw [if_neg (by omega)]; omega
                clear hsg hp
                go_wp2_with (fail)
                go_quiet (fail)
                go_wp2_with (go_at_call 21; refine (HSG.out _).mono ?_; rintro e w1 ⟨rfl, hE⟩; have HE3 := Lib.hid hE; clear hE)
                go_ret
                rw [F.out]; exact ⟨rfl, EJ.out.trans' ((Ext.drewN' _ _).trans' HE3.out)⟩
              · have F := Lib.hid (show dErr (S ++ [s]) (l.drop (0 + 1)) = G by rw [← FX.out]; exact (dErr_none (by rw [FE.out, if_neg hp])).symm)
                have hs0 : ¬ sg ≤ 0 := by rw [hsg]; unfold sgn; rw [if_neg (by omega), if_pos (by omega)]; omega
                clear hsg hp
                go_wp2_with (fail)
                go_quiet (fail)
                go_wp2_with (go_at_call 21; refine (HSG.out _).mono ?_; rintro e w1 ⟨rfl, hE⟩; have HE3 := Lib.hid hE; clear hE)
                refine ⟨⟨0 + 1, by omega, by go_num, by rw [← FS.out]; exact F.out, EJ.out.trans' ((Ext.drewN' _ _).trans' HE3.out)⟩, by simp [intOf]; omega⟩
            · obtain ⟨m, rfl⟩ : ∃ m, k = m + 1 := ⟨k - 1, by omega⟩
              have hml : m < l.length := by omega
              obtain ⟨low, hlow⟩ : ∃ low, low = l[m].1 := ⟨_, rfl⟩
              obtain ⟨y, hy⟩ : ∃ y, y = l[m].2 := ⟨_, rfl⟩
              obtain ⟨a0, -⟩ := de_get hml (fun j hj i u hu => EJ.out.cell' (HCC.out j hj i u hu)) (show l[m] = (low, y) by rw [hlow, hy])
              have HLAST := Lib.hid (show S.getLast? = some low by rw [HSD.out, List.take_succ_eq_append_getElem hml, List.map_append, hlow]; simp)
              have b3 : (0 : Int) ≤ (m : Int) := by omega
              have b4 : (m : Int) < (n : Int) := by omega
              clear hlow hy hk0
              cases h1 : keyLt s low
              · have g1 : Op.bytesLess s.toList low.toList = false := h1
                have HK1 := Lib.hid h1
                clear h1
                have FE := Lib.hid (show dErrOne S (s, z) = if z ≤ 0 then some dNotPos else none from dErrOne_pos HNS.out HDD.out HLAST.out HK1.out)
                obtain ⟨sg, hsg⟩ : ∃ sg, sg = sgn z := ⟨_, rfl⟩
                rw [← hsg] at HSG
                by_cases hp : z ≤ 0
                · have F := Lib.hid (show G = some dNotPos by rw [← FX.out]; exact dErr_some (by rw [FE.out, if_pos hp]))
                  have hs0 : sg ≤ 0 := by rw [hsg]; unfold sgn; split; omega; rw [if_neg (by omega)]; omega
                  clear hsg hp
                  go_wp2_with (fail)
                  go_quiet (fail)
                  go_wp2_with (go_at_call 21; refine (HSG.out _).mono ?_; rintro e w1 ⟨rfl, hE⟩; have HE3 := Lib.hid hE; clear hE)
                  go_ret
                  rw [F.out]; exact ⟨rfl, EJ.out.trans' ((Ext.drewN' _ _).trans' HE3.out)⟩
                · have F := Lib.hid (show dErr (S ++ [s]) (l.drop (m + 1 + 1)) = G by rw [← FX.out]; exact (dErr_none (by rw [FE.out, if_neg hp])).symm)
                  have hs0 : ¬ sg ≤ 0 := by rw [hsg]; unfold sgn; rw [if_neg (by omega), if_pos (by omega)]; omega
                  clear hsg hp
                  go_wp2_with (fail)
                  go_quiet (fail)
                  go_wp2_with (go_at_call 21; refine (HSG.out _).mono ?_; rintro e w1 ⟨rfl, hE⟩; have HE3 := Lib.hid hE; clear hE)
                  refine ⟨⟨m + 1 + 1, by omega, by go_num, by rw [← FS.out]; exact F.out, EJ.out.trans' ((Ext.drewN' _ _).trans' HE3.out)⟩, by simp [intOf]; omega⟩
              · have g1 : Op.bytesLess s.toList low.toList = true := h1
                have F := Lib.hid (show G = some dNotSorted by rw [← FX.out]; exact dErr_some (dErrOne_ord HNS.out HDD.out HLAST.out h1))
                clear h1
                go_wp2_with (fail)
                go_quiet (fail)
                go_wp2
                go_ret
                rw [F.out]; exact ⟨rfl, EJ.out.trans' (Ext.drewN' _ _)⟩
    · obtain rfl : k = n := by omega
      have FN := Lib.hid (show G = none by rw [← HQ.out, List.drop_of_length_le (by rw [HL.out]; exact Nat.le_refl _)]; rfl)
      go_wp2
      go_ret
      rw [FN.out]; exact ⟨rfl, HE.out⟩
end Go.Proofs.YtfocejhcdcnnhaaGreatDoor

namespace Go.Proofs.YtfocejhcdcnnhaaGreatDoor
open Go Go.RowKit

theorem vnz_append (l m : List (ByteArray × Int)) : vnz (l ++ m) = vnz l ++ vnz m := by unfold vnz; rw [List.filter_append]
theorem dsgn_ne (z : Int) : (sgn z = 0) ↔ z = 0 := by
  unfold sgn
  constructor
  · intro h
    split at h
    · omega
    · split at h <;> omega
  · rintro rfl; rfl
theorem sgn_lt (z : Int) : (sgn z < 0) ↔ z < 0 := by
  unfold sgn
  constructor
  · intro h
    split at h
    · assumption
    · split at h <;> omega
  · intro h; rw [if_pos h]; omega

set_option maxRecDepth 100000 in
set_option maxHeartbeats 2000000 in
theorem sSome (A : Option Addr) (n c : Nat) (l : List (ByteArray × Int)) (w : World) (hl : l.length = n) (hn : n ≤ 100000) (h : DeAt w A l) (hz : ∀ x ∈ l, x.2.natAbs < B64 ^ 4) :
    Calls Tryz.prog 25 #[.slice A n c] w (RetDe (vnz l) w) := by
  obtain ⟨i0, hi, hz0, hz1, hz2⟩ := info_parts infoDe
  have HL := Lib.hid hl; have HP := Lib.hid h; have HZ := Lib.hid hz
  clear hl h hz
  go_enter Tryz.func25, Tryz.ntmps25
  go_wp2
  go_loopw [3, 8] (fun v i wr => ∃ (k : Nat) (cs : List (ByteArray × Int)), k ≤ n ∧ i = .int .i64 k ∧ cs.length ≤ k ∧ cs = vnz (l.take k) ∧ DeOwn wr w.heap.size v cs ∧ Ext w wr) (fun _ i _ => n - (intOf i).toNat)
  case atStart => exact ⟨0, [], Nat.zero_le _, rfl, Nat.le_refl _, rfl, DeOwn.nil _ _, Ext.refl _⟩
  case round =>
    obtain ⟨k, cs, hk, rfl, hcl, hcv, hown, hE⟩ := hrel
    have HC := Lib.hid hcl; have HV := Lib.hid hcv; have HO := Lib.hid hown; have HE := Lib.hid hE
    clear hcl hcv hown hE
    by_cases hlt : k < n
    · have hkl : k < l.length := by rw [HL.out]; exact hlt
      obtain ⟨s, hs⟩ : ∃ s, s = l[k].1 := ⟨_, rfl⟩
      obtain ⟨z, hzz⟩ : ∃ z, z = l[k].2 := ⟨_, rfl⟩
      have HX := Lib.hid (show l[k] = (s, z) by rw [hs, hzz])
      obtain ⟨g, o, hA, hcc⟩ := HP.out (by intro e; rw [e] at hkl; simp at hkl)
      subst hA
      have hck := de_get hkl (fun j hj i u hu => HE.out.cell' (hcc j hj i u hu)) HX.out
      have hzk : z.natAbs < B64 ^ 4 := by rw [hzz]; exact HZ.out _ (List.getElem_mem hkl)
      have HSG := Lib.hid (fun W => sSign z W hzk)
      unfold de deV at HSG
      have HD6 := Lib.hid (show dcell6 (s, z) = [.string s, .bool (decide (z < 0)), dw z.natAbs 0, dw z.natAbs 1, dw z.natAbs 2, dw z.natAbs 3] from rfl)
      obtain ⟨x0, x1, x2, x3, e0, e1, e2, e3, -⟩ := words_of z.natAbs
      rw [e0, e1, e2, e3] at HSG hck HD6
      obtain ⟨bz, hbz⟩ : ∃ b, b = decide (z < 0) := ⟨_, rfl⟩
      rw [← hbz] at HSG hck HD6
      clear e0 e1 e2 e3 hzk hbz hs hzz hcc
      obtain ⟨c0, c1, c2, c3, c4, c5⟩ := hck
      have gl := cell_lt c0
      obtain ⟨W2, hW2⟩ : ∃ W2, W2 = wr.alloc (.cells #[.string s, .bool bz, .int .u64 x0, .int .u64 x1, .int .u64 x2, .int .u64 x3] 53) := ⟨_, rfl⟩
      have K4 := Lib.hid (show Blk W2 wr.heap.size 53 [.string s, .bool bz, .int .u64 x0, .int .u64 x1, .int .u64 x2, .int .u64 x3] by rw [hW2]; exact blk_new0 wr _ [.string s, .bool bz, .int .u64 x0, .int .u64 x1, .int .u64 x2, .int .u64 x3])
      have E2 := Lib.hid (show Ext wr W2 by rw [hW2]; exact ext1 _ _)
      have HW2 := Lib.hid hW2; clear hW2
      have b0 : (0 : Int) ≤ (k : Int) := by omega
      have b2 : (k : Int) < (n : Int) := by omega
      go_upto_region 5 with fail
      rw [← HW2.out]
      generalize wr.heap.size = q at *
      clear c0 c1 c2 c3 c4 c5 gl
      obtain ⟨d0, d1, d2, d3, d4, d5, ld⟩ := six_cells K4.out
      obtain ⟨sg, hsg⟩ : ∃ sg, sg = sgn z := ⟨_, rfl⟩
      rw [← hsg] at HSG
      by_cases h0 : z = 0
      · have hs0 : sg = 0 := by rw [hsg]; exact (dsgn_ne z).2 h0
        subst hs0
        clear hsg
        have F := Lib.hid (show cs = vnz (l.take (k + 1)) by rw [List.take_succ_eq_append_getElem hkl, vnz_append, ← HV.out, HX.out, show vnz [(s, z)] = [] by unfold vnz; simp [h0], List.append_nil])
        clear h0
        go_wp2_with (go_at_call 21; refine (HSG.out _).mono ?_; rintro e w1 ⟨rfl, hE⟩; have HE3 := Lib.hid (E2.out.trans' hE); clear hE)
        go_roundw
        case rel => exact ⟨k + 1, cs, by omega, by go_num, by have := HC.out; omega, F.out, HO.out.ext HE3.out, HE.out.trans' HE3.out⟩
        case measure => simp [intOf]; omega
      · have hs0 : (sg != 0) = true := by have : ¬ sg = 0 := by { rw [hsg]; exact fun e => h0 ((dsgn_ne z).1 e) }
                                          simpa using this
        clear hsg
        have F := Lib.hid (show cs ++ [(s, z)] = vnz (l.take (k + 1)) by rw [List.take_succ_eq_append_getElem hkl, vnz_append, ← HV.out, HX.out, show vnz [(s, z)] = [(s, z)] by unfold vnz; simp [h0]])
        clear h0
        go_wp2_with (first | (go_at_call 21; refine (HSG.out _).mono ?_; rintro e w1 ⟨rfl, hE⟩; have HE3 := Lib.hid (E2.out.trans' hE); obtain ⟨f0, f1, f2, f3, f4, f5, lf⟩ := six_cells (K4.out.ext hE); clear hE) | (at_builtin; refine wpList_append_own_at _ rfl (.tmp 16) (.tmp 18) 32 rfl w.heap.size 53 i0 _ 6 56 Tryz.underlying32 hi hz0 hz1 hz2 rfl (by decide) u3 cs.length (flat6 cs) rfl (owns_ext (HO.out.ext HE3.out) (ext1 _ _)) ⟨w1.heap.size, 0, none⟩ 1 1 (dcell6 (s, z)) rfl rfl (by rw [HD6.out]; exact cells_new _ _ _) (dcell6_one _) (by have := HC.out; unfold maxLen; omega) (by have := HC.out; omega) (by have := HE.out.size; have := HE3.out.size; simp; omega) ?_; intro v' w2 hown hgrow _ _; have R := Lib.hid (de_push ((HO.out.ext HE3.out).ext (ext1 _ _)) ((HE.out.trans' HE3.out).trans' (ext1 _ _)) hown hgrow); clear hown hgrow))
        go_roundw
        case rel => exact ⟨k + 1, cs ++ [(s, z)], by omega, by go_num, by have := HC.out; simp; omega, F.out, R.out.1, R.out.2⟩
        case measure => simp [intOf]; omega
    · obtain rfl : k = n := by omega
      go_wp2
      go_ret
      exact ⟨_, rfl, by have := HO.out; rw [HV.out, List.take_of_length_le (by rw [HL.out]; exact Nat.le_refl _)] at this; exact this, HE.out⟩

end Go.Proofs.YtfocejhcdcnnhaaGreatDoor
