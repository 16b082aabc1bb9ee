/-
  The specification's DeciOneErr and DeciErr.
  The specification's DeciSome and DeciNegative.
-/
import Derived.Test.YtcoffndnfaemoaaGreatDoorGT
import Derived.Test.YtcoffndnfaemoaaGreatDoorGV
import Derived.BigQuiet
import Derived.Test.YtcoffndnfaemoaaGreatDoorGQ
namespace Go.Proofs.YtcoffndnfaemoaaGreatDoor
open Go Go.RowKit

/-- A decimal coin of the specification. -/
abbrev deCV (s : ByteArray) (z : Int) : Value := .agg #[.string s, .bool (decide (z < 0)), dw z.natAbs 0, dw z.natAbs 1, dw z.natAbs 2, dw z.natAbs 3]
theorem six_cells {W : World} {g : Nat} {T : TypeId} {a b c d e f : Value} (h : Blk W g T [a, b, c, d, e, f]) : W.cell? ⟨g, 0, none⟩ = some a ∧ W.cell? ⟨g, 1, none⟩ = some b ∧ W.cell? ⟨g, 2, none⟩ = some c ∧ W.cell? ⟨g, 3, none⟩ = some d ∧ W.cell? ⟨g, 4, none⟩ = some e ∧ W.cell? ⟨g, 5, none⟩ = some f ∧ g < W.heap.size :=
  ⟨(h.cell 0).trans rfl, (h.cell 1).trans rfl, (h.cell 2).trans rfl, (h.cell 3).trans rfl, (h.cell 4).trans rfl, (h.cell 5).trans rfl, h.lt⟩

theorem seenB_none {S : List ByteArray} {s : ByteArray} (h : ∀ t ∈ S, t ≠ s) : seenB S s = false := by
  rw [Bool.eq_false_iff]; intro k; exact h s ((seenB_iff S s).1 k) rfl

end Go.Proofs.YtcoffndnfaemoaaGreatDoor

namespace Go.Proofs.YtcoffndnfaemoaaGreatDoor
open Go Go.RowKit

theorem vnz_append (l m : List (ByteArray × Int)) : vnz (l ++ m) = vnz l ++ vnz m := by unfold vnz; rw [List.filter_append]
theorem dsgn_ne (z : Int) : (sgn z = 0) ↔ z = 0 := by
  unfold sgn
  constructor
  · intro h
    split at h
    · omega
    · split at h <;> omega
  · rintro rfl; rfl
theorem sgn_lt (z : Int) : (sgn z < 0) ↔ z < 0 := by
  unfold sgn
  constructor
  · intro h
    split at h
    · assumption
    · split at h <;> omega
  · intro h; rw [if_pos h]; omega

set_option maxRecDepth 100000 in
set_option maxHeartbeats 2000000 in
theorem sSome (A : Option Addr) (n c : Nat) (l : List (ByteArray × Int)) (w : World) (hl : l.length = n) (hn : n ≤ 100000) (h : DeAt w A l) (hz : ∀ x ∈ l, x.2.natAbs < B64 ^ 4) :
    Calls Tryz.prog 54 #[.slice A n c] w (RetDe (vnz l) w) := by
  obtain ⟨i0, hi, hz0, hz1, hz2⟩ := info_parts infoDe
  have HL := Lib.hid hl; have HP := Lib.hid h; have HZ := Lib.hid hz
  clear hl h hz
  go_enter Tryz.func54, Tryz.ntmps54
  go_wp2
  go_loopw [3, 8] (fun v i wr => ∃ (k : Nat) (cs : List (ByteArray × Int)), k ≤ n ∧ i = .int .i64 k ∧ cs.length ≤ k ∧ cs = vnz (l.take k) ∧ DeOwn wr w.heap.size v cs ∧ Ext w wr) (fun _ i _ => n - (intOf i).toNat)
  case atStart => exact ⟨0, [], Nat.zero_le _, rfl, Nat.le_refl _, rfl, DeOwn.nil _ _, Ext.refl _⟩
  case round =>
    obtain ⟨k, cs, hk, rfl, hcl, hcv, hown, hE⟩ := hrel
    have HC := Lib.hid hcl; have HV := Lib.hid hcv; have HO := Lib.hid hown; have HE := Lib.hid hE
    clear hcl hcv hown hE
    by_cases hlt : k < n
    · have hkl : k < l.length := by rw [HL.out]; exact hlt
      obtain ⟨s, hs⟩ : ∃ s, s = l[k].1 := ⟨_, rfl⟩
      obtain ⟨z, hzz⟩ : ∃ z, z = l[k].2 := ⟨_, rfl⟩
      have HX := Lib.hid (show l[k] = (s, z) by rw [hs, hzz])
      obtain ⟨g, o, hA, hcc⟩ := HP.out (by intro e; rw [e] at hkl; simp at hkl)
      subst hA
      have hck := de_get hkl (fun j hj i u hu => HE.out.cell' (hcc j hj i u hu)) HX.out
      have hzk : z.natAbs < B64 ^ 4 := by rw [hzz]; exact HZ.out _ (List.getElem_mem hkl)
      have HSG := Lib.hid (fun W => sSign z W hzk)
      unfold de deV at HSG
      have HD6 := Lib.hid (show dcell6 (s, z) = [.string s, .bool (decide (z < 0)), dw z.natAbs 0, dw z.natAbs 1, dw z.natAbs 2, dw z.natAbs 3] from rfl)
      obtain ⟨x0, x1, x2, x3, e0, e1, e2, e3, -⟩ := words_of z.natAbs
      rw [e0, e1, e2, e3] at HSG hck HD6
      obtain ⟨bz, hbz⟩ : ∃ b, b = decide (z < 0) := ⟨_, rfl⟩
      rw [← hbz] at HSG hck HD6
      clear e0 e1 e2 e3 hzk hbz hs hzz hcc
      obtain ⟨c0, c1, c2, c3, c4, c5⟩ := hck
      have gl := cell_lt c0
      obtain ⟨W2, hW2⟩ : ∃ W2, W2 = wr.alloc (.cells #[.string s, .bool bz, .int .u64 x0, .int .u64 x1, .int .u64 x2, .int .u64 x3] 53) := ⟨_, rfl⟩
      have K4 := Lib.hid (show Blk W2 wr.heap.size 53 [.string s, .bool bz, .int .u64 x0, .int .u64 x1, .int .u64 x2, .int .u64 x3] by rw [hW2]; exact blk_new0 wr _ [.string s, .bool bz, .int .u64 x0, .int .u64 x1, .int .u64 x2, .int .u64 x3])
      have E2 := Lib.hid (show Ext wr W2 by rw [hW2]; exact ext1 _ _)
      have HW2 := Lib.hid hW2; clear hW2
      have b0 : (0 : Int) ≤ (k : Int) := by omega
      have b2 : (k : Int) < (n : Int) := by omega
      go_upto_region 5 with fail
      rw [← HW2.out]
      generalize wr.heap.size = q at *
      clear c0 c1 c2 c3 c4 c5 gl
      obtain ⟨d0, d1, d2, d3, d4, d5, ld⟩ := six_cells K4.out
      obtain ⟨sg, hsg⟩ : ∃ sg, sg = sgn z := ⟨_, rfl⟩
      rw [← hsg] at HSG
      by_cases h0 : z = 0
      · have hs0 : sg = 0 := by rw [hsg]; exact (dsgn_ne z).2 h0
        subst hs0
        clear hsg
        have F := Lib.hid (show cs = vnz (l.take (k + 1)) by rw [List.take_succ_eq_append_getElem hkl, vnz_append, ← HV.out, HX.out, show vnz [(s, z)] = [] by unfold vnz; simp [h0], List.append_nil])
        clear h0
        go_wp2_with (go_at_call 22; refine (HSG.out _).mono ?_; rintro e w1 ⟨rfl, hE⟩; have HE3 := Lib.hid (E2.out.trans' hE); clear hE)
        go_roundw
        case rel => exact ⟨k + 1, cs, by omega, by go_num, by have := HC.out; omega, F.out, HO.out.ext HE3.out, HE.out.trans' HE3.out⟩
        case measure => simp [intOf]; omega
      · have hs0 : (sg != 0) = true := by have : ¬ sg = 0 := by { rw [hsg]; exact fun e => h0 ((dsgn_ne z).1 e) }
                                          simpa using this
        clear hsg
        have F := Lib.hid (show cs ++ [(s, z)] = vnz (l.take (k + 1)) by rw [List.take_succ_eq_append_getElem hkl, vnz_append, ← HV.out, HX.out, show vnz [(s, z)] = [(s, z)] by unfold vnz; simp [h0]])
        clear h0
        go_wp2_with (first | (go_at_call 22; refine (HSG.out _).mono ?_; rintro e w1 ⟨rfl, hE⟩; have HE3 := Lib.hid (E2.out.trans' hE); obtain ⟨f0, f1, f2, f3, f4, f5, lf⟩ := six_cells (K4.out.ext hE); clear hE) | (at_builtin; refine wpList_append_own_at _ rfl (.tmp 16) (.tmp 18) 32 rfl w.heap.size 53 i0 _ 6 56 Tryz.underlying32 hi hz0 hz1 hz2 rfl (by decide) u3 cs.length (flat6 cs) rfl (owns_ext (HO.out.ext HE3.out) (ext1 _ _)) ⟨w1.heap.size, 0, none⟩ 1 1 (dcell6 (s, z)) rfl rfl (by rw [HD6.out]; exact cells_new _ _ _) (dcell6_one _) (by have := HC.out; unfold maxLen; omega) (by have := HC.out; omega) (by have := HE.out.size; have := HE3.out.size; simp; omega) ?_; intro v' w2 hown hgrow _ _; have R := Lib.hid (de_push ((HO.out.ext HE3.out).ext (ext1 _ _)) ((HE.out.trans' HE3.out).trans' (ext1 _ _)) hown hgrow); clear hown hgrow))
        go_roundw
        case rel => exact ⟨k + 1, cs ++ [(s, z)], by omega, by go_num, by have := HC.out; simp; omega, F.out, R.out.1, R.out.2⟩
        case measure => simp [intOf]; omega
    · obtain rfl : k = n := by omega
      go_wp2
      go_ret
      exact ⟨_, rfl, by have := HO.out; rw [HV.out, List.take_of_length_le (by rw [HL.out]; exact Nat.le_refl _)] at this; exact this, HE.out⟩

end Go.Proofs.YtcoffndnfaemoaaGreatDoor
