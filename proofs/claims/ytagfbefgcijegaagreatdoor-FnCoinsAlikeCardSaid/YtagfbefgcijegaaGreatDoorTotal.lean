/-
  The contract of the reference's SumTotal.
-/
import Derived.Test.YtagfbefgcijegaaGreatDoorTot
import Derived.Test.YtagfbefgcijegaaGreatDoorLKit
import Derived.Test.YtagfbefgcijegaaGreatDoorSpec3
namespace Go.Proofs.YtagfbefgcijegaaGreatDoor
open Go Go.RowKit

/-- The last record of a row: its cells, and its number overwritten. -/
theorem plain_last {w : World} {base : Nat} {E : TypeId} {v : Value} {ini : List (ByteArray × Int)} {s : ByteArray} {y : Int} (h : PlainOwn w base E v (ini ++ [(s, y)])) :
    ∃ g c, v = .slice (some ⟨g, 0, none⟩) (ini.length + 1) c ∧ base ≤ g ∧ w.cell? ⟨g, ini.length * 2, none⟩ = some (.string s) ∧ w.cell? ⟨g, ini.length * 2 + 1, none⟩ = some (.int .i64 y) ∧ w.frozen? ⟨g, ini.length * 2 + 1, none⟩ = false ∧
      ∀ (w1 : World) (z : Int), w1.heap[g]? = w.heap[g]? → PlainOwn (w1.setCell ⟨g, ini.length * 2 + 1, none⟩ (.int .i64 z)) base E v (ini ++ [(s, z)]) := by
  unfold PlainOwn at h
  rcases h.2 with ⟨_, h0⟩ | ⟨g, cap, cur, hv, hb, hh, hnc, hcm, hcs, ht⟩
  · simp at h0
  · have hlen : (ini ++ [(s, y)]).length = ini.length + 1 := by simp
    rw [hlen] at hv hnc ht
    have hk : Blk w g E cur.toList := by unfold Blk; simpa using hh
    have hfl : (flat2 (ini.map plain)).length = ini.length * 2 := by rw [flat2_length]; simp
    have hflat : flat2 ((ini ++ [(s, y)]).map plain) = flat2 (ini.map plain) ++ [.string s, .int .i64 y] := by rw [List.map_append, flat2_append]; rfl
    rw [hflat] at ht
    refine ⟨g, cap, hv, hb, ?_, ?_, hk.frozen _, fun w1 z e1 => ?_⟩
    · rw [hk.cell]
      have := congrArg (fun l => l[ini.length * 2]?) ht
      rw [List.getElem?_take, if_pos (by omega), List.getElem?_append_right (by omega), hfl] at this
      simpa using this
    · rw [hk.cell]
      have := congrArg (fun l => l[ini.length * 2 + 1]?) ht
      rw [List.getElem?_take, if_pos (by omega), List.getElem?_append_right (by omega), hfl] at this
      simpa using this
    · have hk1 : Blk w1 g E cur.toList := by unfold Blk; rw [e1]; simpa using hh
      have hs := hk1.set_ (ini.length * 2 + 1) (.int .i64 z)
      refine ⟨by rw [flat2_length]; simp, Or.inr ⟨g, cap, (cur.toList.set (ini.length * 2 + 1) (.int .i64 z)).toArray, by simpa using hv, hb, by unfold Blk at hs; simpa using hs, by simpa using hnc, hcm, by simpa using hcs, ?_⟩⟩
      rw [show (ini ++ [(s, z)]).length * 2 = (ini.length + 1) * 2 by simp, List.toList_toArray, List.take_set, ht, List.map_append, flat2_append, List.set_append_right _ _ (by omega), hfl]
      simp [flat2, plain]

theorem ini_last {out : List (ByteArray × Int)} (h : out ≠ []) : ∃ ini s y, out = ini ++ [(s, y)] := ⟨out.dropLast, (out.getLast h).1, (out.getLast h).2, (List.dropLast_concat_getLast h).symm⟩
theorem alloc_get (w : World) (o : Obj) (g : Nat) (h : g < w.heap.size) : (w.alloc o).heap[g]? = w.heap[g]? := Below.heap_alloc w o g h
theorem take_le {r : List (ByteArray × Int)} {k : Nat} {s : ByteArray} {z : Int} (h : r.Pairwise fun a b => le a.1 b.1) (hk : k < r.length) (he : r[k] = (s, z)) : ∀ y ∈ r.take k, le y.1 (s, z).1 := by
  intro y hy
  obtain ⟨j, hj, rfl⟩ := List.getElem_of_mem hy
  simp at hj
  rw [List.getElem_take, ← he]
  exact List.pairwise_iff_getElem.1 h j k (by omega) hk (by omega)
/-- The sums handed back. -/
def RetTotal (l : List (ByteArray × Int)) (w : World) (e : Ending) (w' : World) : Prop := ∃ r, RetPlain 43 r w e w' ∧ IsAdd l r
set_option maxRecDepth 100000 in
set_option maxHeartbeats 4000000 in
theorem sSumTotal (A : Option Addr) (n c : Nat) (l : List (ByteArray × Int)) (w : World) (hl : l.length = n) (hn : n ≤ 50) (h : PlainAt w A l) (hb : ∀ x ∈ l, x.2.natAbs ≤ 1125899906842624) :
    Calls Tryz.prog 27 #[.slice A n c] w (RetTotal l w) := by
  obtain ⟨i0, hi, hz0, hz1, hz2⟩ := info_parts infoSum
  have H1 := Lib.hid (sSumSorted A n c l w hl (by omega) h)
  have HL := Lib.hid hl; have HB := Lib.hid hb
  clear hl h hb
  go_enter Tryz.func27, Tryz.ntmps27
  go_wp2_with (fail)
  go_at_call 31
  refine H1.out.mono ?_
  rintro e w1 ⟨r, ⟨v1, rfl, ho1, hE1⟩, hperm, hsort⟩
  obtain ⟨A1, c1, rfl, hp1⟩ := pown_at ho1
  have HP := Lib.hid hp1; have HE1 := Lib.hid hE1; have HPM := Lib.hid hperm; have HSO := Lib.hid hsort
  have hrl : r.length = n := by rw [hperm.length_eq, HL.out]
  have HBR := Lib.hid (fun x (hx : x ∈ r) => HB.out x (hperm.mem_iff.1 hx))
  clear ho1 hp1 hE1 hperm hsort H1
  go_wp2
  go_loopw [3, 10] (fun v i wr => ∃ (k : Nat) (out : List (ByteArray × Int)), k ≤ r.length ∧ i = .int .i64 k ∧ (TotI (r.take k) out ∧ PlainOwn wr w1.heap.size 43 v out) ∧ Ext w1 wr) (fun _ i _ => r.length - (intOf i).toNat)
  case atStart => exact ⟨0, [], Nat.zero_le _, rfl, ⟨totI_nil, PlainOwn.nil _ _ _⟩, Ext.refl _⟩
  case round =>
    obtain ⟨k, out, hk, rfl, ⟨htot, hown⟩, hE⟩ := hrel
    have hol := totI_len htot
    rw [List.length_take] at hol
    have HT := Lib.hid (And.intro htot (show out.length ≤ 50 by omega)); have HO := Lib.hid hown; have HE := Lib.hid hE
    clear htot hown hE
    by_cases hlt : k < r.length
    · have hkr : k < r.length := hlt
      obtain ⟨s, hs⟩ : ∃ s, s = r[k].1 := ⟨_, rfl⟩
      obtain ⟨z, hzz⟩ : ∃ z, z = r[k].2 := ⟨_, rfl⟩
      obtain ⟨g, o, hA, hc⟩ := HP.out (by intro e; have := congrArg List.length e; simp at this; rw [this] at hkr; simp at hkr)
      subst hA
      have hck := hc k (by simpa using hkr)
      have cs0 : wr.cell? ⟨g, o + k * 2, none⟩ = some (.string s) := HE.out.cell' (by rw [hck.1, hs]; simp [plain])
      have cs1 : wr.cell? ⟨g, o + k * 2 + 1, none⟩ = some (.int .i64 z) := HE.out.cell' (by rw [hck.2, hzz]; simp [plain])
      have HX := Lib.hid (show r[k] = (s, z) by rw [hs, hzz])
      have hzb := HBR.out _ (List.getElem_mem hkr)
      rw [← hzz] at hzb
      have HLE := Lib.hid (take_le HSO.out hkr HX.out)
      clear hs hzz hck hc
      by_cases h0 : out = []
      · subst h0
        obtain ⟨A3, c3, hv3⟩ := own_slice HO.out
        subst hv3
        have HO' := Lib.hid (show PlainOwn wr w1.heap.size 43 (.slice A3 0 c3) [] from HO.out)
        go_wp2
        go_quiet (fail)
        go_wp2_with (first | (at_builtin; refine wpList_append_own_at _ rfl (.tmp 40) (.tmp 42) 22 rfl w1.heap.size 43 i0 _ 2 24 Tryz.underlying22 hi hz0 hz1 hz2 rfl (by decide) _ 0 (flat2 (([] : List (ByteArray × Int)).map plain)) rfl (owns_ext HO.out (ext_da _ _ _ _)) ⟨wr.heap.size + 1, 0, none⟩ 1 1 [.string s, .int .i64 z] rfl rfl (two_da _ _ _ _ _) (two_one _ _ rfl rfl) (by unfold maxLen; have := HT.out.2; omega) (by have := HT.out.2; omega) (by have := HE.out.size; simp; omega) ?_; intro v' w2 hown hgrow _ _; have R := Lib.hid (plain_push (HO.out.ext (ext_da _ _ _ _)) (HE.out.trans' (ext_da _ _ _ _)) hown hgrow); clear hown hgrow))
        go_roundw
        case rel =>
          refine ⟨k + 1, [(s, z)], by omega, by go_num, ⟨?_, R.out.1⟩, R.out.2⟩
          rw [List.take_succ_eq_append_getElem hkr, HX.out]; exact totI_new HT.out.1 (fun y hy => by simp at hy)
        case measure => simp [intOf]; omega
      · obtain ⟨ini, t, y, rfl⟩ := ini_last h0
        obtain ⟨g3, c3, hv3, hg3, k0, k1, kf, kset⟩ := plain_last HO.out
        subst hv3
        have hib := totI_bound HT.out.1 (fun x hx => HBR.out x (List.mem_of_mem_take hx)) (by rw [List.length_take]; omega) (t, y) (by simp)
        have HI := Lib.hid hib
        have e3 : ini.length ≤ 50 := by have := HT.out.2; rw [List.length_append, List.length_singleton] at this; omega
        have e0 : (0 : Int) ≤ (ini.length : Int) := by omega
        have e1 : (ini.length : Int) < (ini.length : Int) + 1 := by omega
        have e2 : (0 : Int) < (ini.length : Int) + 1 := by omega
        have g3l := cell_lt k0
        by_cases hst : t = s
        · subst hst
          dsimp only at hib
          have KS := Lib.hid kset; clear kset
          go_wp2
          go_quiet (fail)
          go_wp2
          go_region
          go_wp2
          go_roundw
          case rel =>
            refine ⟨k + 1, ini ++ [(t, y + z)], by omega, by go_num, ⟨?_, KS.out _ _ (alloc_get _ _ _ g3l)⟩, Only.ext (HE.out.trans' ((Ext.alloc' _ _).trans' (Ext.drewN' _ _))) ((Only.refl g3 _).set_ _ _) hg3⟩
            rw [List.take_succ_eq_append_getElem hkr, HX.out]; exact totI_more HT.out.1
          case measure => simp [intOf]; omega
        · have hne : (t.toList == s.toList) = false := by rw [key_beq]; simpa using hst
          have HNE := Lib.hid hst
          clear hst kset kf
          have HO1 := Lib.hid (show wr.ownsRow w1.heap.size 43 2 (.slice (some ⟨g3, 0, none⟩) (ini.length + 1) c3) (ini.length + 1) (flat2 ((ini ++ [(t, y)]).map plain)) from by have := HO.out; unfold PlainOwn at this; rw [List.length_append, List.length_singleton] at this; exact this)
          go_wp2
          go_quiet (fail)
          go_wp2_with (first | (at_builtin; refine wpList_append_own_at _ rfl (.tmp 40) (.tmp 42) 22 rfl w1.heap.size 43 i0 _ 2 24 Tryz.underlying22 hi hz0 hz1 hz2 rfl (by decide) _ (ini.length + 1) (flat2 ((ini ++ [(t, y)]).map plain)) rfl (owns_ext HO1.out (ext_da _ _ _ _)) ⟨wr.heap.size + 1, 0, none⟩ 1 1 [.string s, .int .i64 z] rfl rfl (two_da _ _ _ _ _) (two_one _ _ rfl rfl) (by unfold maxLen; have := HT.out.2; omega) (by have := HT.out.2; omega) (by have := HE.out.size; simp; omega) ?_; intro v' w2 hown hgrow _ _; have R := Lib.hid (plain_push (HO.out.ext (ext_da _ _ _ _)) (HE.out.trans' (ext_da _ _ _ _)) (by rw [List.length_append, List.length_singleton]; exact hown) hgrow); clear hown hgrow))
          go_roundw
          case rel =>
            refine ⟨k + 1, ini ++ [(t, y)] ++ [(s, z)], by omega, by go_num, ⟨?_, R.out.1⟩, R.out.2⟩
            rw [List.take_succ_eq_append_getElem hkr, HX.out]; exact totI_new HT.out.1 (totI_lt HT.out.1 HLE.out HNE.out)
          case measure => simp [intOf]; omega
    · obtain rfl : k = r.length := by omega
      obtain ⟨A3, c3, hv3, hp3⟩ := pown_at HO.out
      subst hv3
      have HP3 := Lib.hid hp3; clear hp3
      go_wp2_with (first | (go_at_call 39; refine (sSumWithout A3 out.length c3 out _ rfl (by have := HT.out.2; omega) HP3.out).mono ?_; rintro e w4 ⟨v4, rfl, ho4, hE4⟩; have HO4 := Lib.hid ho4; have HE4 := Lib.hid hE4; clear ho4 hE4))
      go_ret
      have ht := HT.out.1
      rw [List.take_of_length_le (Nat.le_refl _)] at ht
      refine ⟨_, ⟨_, rfl, row_low HO4.out ?_, (HE1.out.trans' HE.out).trans' HE4.out⟩, isAdd_perm HPM.out (totI_end ht)⟩
      have := HE1.out.size; have := HE.out.size; omega
end Go.Proofs.YtagfbefgcijegaaGreatDoor
