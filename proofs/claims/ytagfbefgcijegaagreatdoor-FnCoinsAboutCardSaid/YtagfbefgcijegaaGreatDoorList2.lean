/-
  Contracts of the loops that turn lists: impl.backCoins, laws.sumTo, laws.sumFrom.
-/
import Derived.Test.YtagfbefgcijegaaGreatDoorList
namespace Go.Proofs.YtagfbefgcijegaaGreatDoor
open Go Go.RowKit

theorem infoSum : (Tryz.prog.info? 43).map (fun i => (i.zero, i.size, i.bytes)) = some (some (.agg #[.string ByteArray.empty, .int .i64 0]), 2, 24) := by kernel_rfl
def PlainOwn (w : World) (base : Nat) (E : TypeId) (v : Value) (l : List (ByteArray × Int)) : Prop := w.ownsRow base E 2 v l.length (flat2 (l.map plain))
theorem PlainOwn.nil (w : World) (base : Nat) (E : TypeId) : PlainOwn w base E (.slice none 0 0) [] := World.ownsRow_nil _ _ _ _
theorem PlainOwn.ext {w w' : World} {base : Nat} {E : TypeId} {v : Value} {l : List (ByteArray × Int)} (h : PlainOwn w base E v l) (e : Ext w w') : PlainOwn w' base E v l := owns_ext h e
theorem plain_push {w w1 w2 : World} {E : TypeId} {v v' : Value} {l : List (ByteArray × Int)} {s : ByteArray} {z : Int} (h : PlainOwn w1 w.heap.size E v l) (e : Ext w w1)
    (hown : w2.ownsRow w.heap.size E 2 v' (l.length + 1) (flat2 (l.map plain) ++ [.string s, .int .i64 z])) (hg : w1.grownBy w2 v.ownBlock) :
    PlainOwn w2 w.heap.size E v' (l ++ [(s, z)]) ∧ Ext w w2 := by
  refine ⟨?_, ext_grown e h hg⟩
  unfold PlainOwn
  rw [List.length_append, List.map_append, flat2_append]; exact hown
/-- Plain coins handed back. -/
def RetPlain (E : TypeId) (l : List (ByteArray × Int)) (w : World) (e : Ending) (w' : World) : Prop := ∃ v, e = .returned v ∧ PlainOwn w' w.heap.size E v l ∧ Ext w w'

theorem two_new1 (w : World) (o : Obj) (a b : Value) (t : TypeId) : ∀ j u, [a, b][j]? = some u → ((w.alloc o).alloc (.cells #[a, b] t)).cell? ((⟨w.heap.size + 1, 0, none⟩ : Addr).add j) = some u := by
  have := cell_two_new (w.alloc o) a b t
  rwa [show (w.alloc o).heap.size = w.heap.size + 1 by simp] at this

set_option maxRecDepth 100000 in
set_option maxHeartbeats 400000 in
theorem lSumTo (A : Option Addr) (n c : Nat) (l : List (ByteArray × Int)) (w : World) (hl : l.length = n) (hn : n ≤ 1000000) (h : PlainAt w A l) :
    Calls Tryz.prog 22 #[.slice A n c] w (RetPlain 37 l w) := by
  obtain ⟨i0, hi, hz0, hz1, hz2⟩ := info_parts infoPlan
  have HL := Lib.hid hl; have HP := Lib.hid h
  clear hl h
  go_enter Tryz.func22, Tryz.ntmps22
  go_wp2
  go_loopw [3, 8] (fun v i wr => ∃ (k : Nat) (cs : List (ByteArray × Int)), k ≤ n ∧ i = .int .i64 k ∧ cs.length = k ∧ cs = l.take k ∧ PlainOwn wr w.heap.size 37 v cs ∧ Ext w wr) (fun _ i _ => n - (intOf i).toNat)
  case atStart => exact ⟨0, [], Nat.zero_le _, rfl, rfl, rfl, PlainOwn.nil _ _ _, Ext.refl _⟩
  case round =>
    obtain ⟨k, cs, hk, rfl, hcl, hcv, hown, hE⟩ := hrel
    have HC := Lib.hid hcl; have HV := Lib.hid hcv; have HO := Lib.hid hown; have HE := Lib.hid hE
    clear hcl hcv hown hE
    by_cases hlt : k < n
    · have hkl : k < l.length := by rw [HL.out]; exact hlt
      obtain ⟨s, hs⟩ : ∃ s, s = l[k].1 := ⟨_, rfl⟩
      obtain ⟨z, hzz⟩ : ∃ z, z = l[k].2 := ⟨_, rfl⟩
      obtain ⟨g, o, hA, hc⟩ := HP.out (by intro e; have := congrArg List.length e; simp at this; rw [this] at hkl; simp at hkl)
      subst hA
      have hck := hc k (by simpa using hkl)
      have cs0 : wr.cell? ⟨g, o + k * 2, none⟩ = some (.string s) := HE.out.cell' (by rw [hck.1, hs]; simp [plain])
      have cs1 : wr.cell? ⟨g, o + k * 2 + 1, none⟩ = some (.int .i64 z) := HE.out.cell' (by rw [hck.2, hzz]; simp [plain])
      have HS := Lib.hid hs; have HZZ := Lib.hid hzz; clear hs hzz hck hc
      go_wp2_with (first | (at_builtin; refine wpList_append_own_at _ rfl (.tmp 12) (.tmp 14) 24 rfl w.heap.size 37 i0 _ 2 24 Tryz.underlying24 hi hz0 hz1 hz2 rfl (by decide) u3 cs.length (flat2 (cs.map plain)) rfl (owns_ext HO.out (ext2 _ _ _)) ⟨wr.heap.size + 1, 0, none⟩ 1 1 [.string s, .int .i64 z] rfl rfl (two_new1 _ _ _ _ _) (two_one _ _ rfl rfl) (by rw [HC.out]; unfold maxLen; omega) (by rw [HC.out]; omega) (by have := HE.out.size; simp; omega) ?_; intro v' w2 hown hgrow _ _; have R := Lib.hid (plain_push (HO.out.ext (ext2 _ (.cells #[.string s, .int .i64 z] 43) (.cells #[.string s, .int .i64 z] 37))) (HE.out.trans' (ext2 _ _ _)) hown hgrow); clear hown hgrow))
      go_roundw
      case rel =>
        refine ⟨k + 1, cs ++ [(s, z)], by omega, by go_num, by simp [HC.out], ?_, R.out.1, R.out.2⟩
        rw [HV.out, List.take_succ_eq_append_getElem hkl, HS.out, HZZ.out]
      case measure => simp [intOf]; omega
    · obtain rfl : k = n := by omega
      go_wp2
      go_ret
      have hv : cs = l := by rw [HV.out, List.take_of_length_le (by rw [HL.out]; exact Nat.le_refl _)]
      exact ⟨_, rfl, hv ▸ HO.out, HE.out⟩

set_option maxRecDepth 100000 in
set_option maxHeartbeats 400000 in
theorem lSumFrom (A : Option Addr) (n c : Nat) (l : List (ByteArray × Int)) (w : World) (hl : l.length = n) (hn : n ≤ 1000000) (h : PlainAt w A l) :
    Calls Tryz.prog 26 #[.slice A n c] w (RetPlain 43 l w) := by
  obtain ⟨i0, hi, hz0, hz1, hz2⟩ := info_parts infoSum
  have HL := Lib.hid hl; have HP := Lib.hid h
  clear hl h
  go_enter Tryz.func26, Tryz.ntmps26
  go_wp2
  go_loopw [3, 8] (fun v i wr => ∃ (k : Nat) (cs : List (ByteArray × Int)), k ≤ n ∧ i = .int .i64 k ∧ cs.length = k ∧ cs = l.take k ∧ PlainOwn wr w.heap.size 43 v cs ∧ Ext w wr) (fun _ i _ => n - (intOf i).toNat)
  case atStart => exact ⟨0, [], Nat.zero_le _, rfl, rfl, rfl, PlainOwn.nil _ _ _, Ext.refl _⟩
  case round =>
    obtain ⟨k, cs, hk, rfl, hcl, hcv, hown, hE⟩ := hrel
    have HC := Lib.hid hcl; have HV := Lib.hid hcv; have HO := Lib.hid hown; have HE := Lib.hid hE
    clear hcl hcv hown hE
    by_cases hlt : k < n
    · have hkl : k < l.length := by rw [HL.out]; exact hlt
      obtain ⟨s, hs⟩ : ∃ s, s = l[k].1 := ⟨_, rfl⟩
      obtain ⟨z, hzz⟩ : ∃ z, z = l[k].2 := ⟨_, rfl⟩
      obtain ⟨g, o, hA, hc⟩ := HP.out (by intro e; have := congrArg List.length e; simp at this; rw [this] at hkl; simp at hkl)
      subst hA
      have hck := hc k (by simpa using hkl)
      have cs0 : wr.cell? ⟨g, o + k * 2, none⟩ = some (.string s) := HE.out.cell' (by rw [hck.1, hs]; simp [plain])
      have cs1 : wr.cell? ⟨g, o + k * 2 + 1, none⟩ = some (.int .i64 z) := HE.out.cell' (by rw [hck.2, hzz]; simp [plain])
      have HS := Lib.hid hs; have HZZ := Lib.hid hzz; clear hs hzz hck hc
      go_wp2_with (first | (at_builtin; refine wpList_append_own_at _ rfl (.tmp 12) (.tmp 14) 22 rfl w.heap.size 43 i0 _ 2 24 Tryz.underlying22 hi hz0 hz1 hz2 rfl (by decide) u3 cs.length (flat2 (cs.map plain)) rfl (owns_ext HO.out (ext2 _ _ _)) ⟨wr.heap.size + 1, 0, none⟩ 1 1 [.string s, .int .i64 z] rfl rfl (two_new1 _ _ _ _ _) (two_one _ _ rfl rfl) (by rw [HC.out]; unfold maxLen; omega) (by rw [HC.out]; omega) (by have := HE.out.size; simp; omega) ?_; intro v' w2 hown hgrow _ _; have R := Lib.hid (plain_push (HO.out.ext (ext2 _ (.cells #[.string s, .int .i64 z] 37) (.cells #[.string s, .int .i64 z] 43))) (HE.out.trans' (ext2 _ _ _)) hown hgrow); clear hown hgrow))
      go_roundw
      case rel =>
        refine ⟨k + 1, cs ++ [(s, z)], by omega, by go_num, by simp [HC.out], ?_, R.out.1, R.out.2⟩
        rw [HV.out, List.take_succ_eq_append_getElem hkl, HS.out, HZZ.out]
      case measure => simp [intOf]; omega
    · obtain rfl : k = n := by omega
      go_wp2
      go_ret
      have hv : cs = l := by rw [HV.out, List.take_of_length_le (by rw [HL.out]; exact Nat.le_refl _)]
      exact ⟨_, rfl, hv ▸ HO.out, HE.out⟩

/-- Plain coins and true handed back. -/
def RetBack (l : List (ByteArray × Int)) (w : World) (e : Ending) (w' : World) : Prop := ∃ v, e = .returned (.tuple #[v, .bool true]) ∧ PlainOwn w' w.heap.size 37 v l ∧ Ext w w'

set_option maxRecDepth 100000 in
set_option maxHeartbeats 400000 in
theorem iBackCoins (A : Option Addr) (n c : Nat) (l : List Co) (w : World) (hl : l.length = n) (hn : n ≤ 1000000) (h : CoinsAt w A l) (hz : ∀ x ∈ l, -maxI ≤ x.z ∧ x.z ≤ maxI) :
    Calls Tryz.prog 74 #[.slice A n c] w (RetBack (l.map Co.val) w) := by
  obtain ⟨i0, hi, hz0, hz1, hz2⟩ := info_parts infoPlan
  have HL := Lib.hid hl; have HP := Lib.hid h; have HZ := Lib.hid hz
  clear hl h hz
  go_enter Tryz.func74, Tryz.ntmps74
  go_wp2
  go_loopw [4, 11] (fun v i wr => ∃ (k : Nat) (cs : List (ByteArray × Int)), k ≤ n ∧ i = .int .i64 k ∧ cs.length = k ∧ cs = (l.map Co.val).take k ∧ PlainOwn wr w.heap.size 37 v cs ∧ Ext w wr) (fun _ i _ => n - (intOf i).toNat)
  case atStart => exact ⟨0, [], Nat.zero_le _, rfl, rfl, rfl, PlainOwn.nil _ _ _, Ext.refl _⟩
  case round =>
    obtain ⟨k, cs, hk, rfl, hcl, hcv, hown, hE⟩ := hrel
    have HC := Lib.hid hcl; have HV := Lib.hid hcv; have HO := Lib.hid hown; have HE := Lib.hid hE
    clear hcl hcv hown hE
    by_cases hlt : k < n
    · have hkl : k < l.length := by rw [HL.out]; exact hlt
      obtain ⟨s, hs⟩ : ∃ s, s = l[k].s := ⟨_, rfl⟩
      obtain ⟨b, hb⟩ : ∃ b, b = l[k].b := ⟨_, rfl⟩
      obtain ⟨z, hzz⟩ : ∃ z, z = l[k].z := ⟨_, rfl⟩
      obtain ⟨g, o, hA, hc⟩ := HP.out.1 (by intro e; have := congrArg List.length e; simp at this; rw [this] at hkl; simp at hkl)
      subst hA
      have hck := hc k (by simpa using hkl)
      have cs0 : wr.cell? ⟨g, o + k * 2, none⟩ = some (.string s) := HE.out.cell' (by rw [hck.1, hs]; simp [Co.pair])
      have cs1 : wr.cell? ⟨g, o + k * 2 + 1, none⟩ = some (.pointer (some ⟨b, 0, none⟩)) := HE.out.cell' (by rw [hck.2, hb]; simp [Co.pair])
      have HB := Lib.hid (show BigAt wr b z by rw [hb, hzz]; exact (HP.out.2 _ (List.getElem_mem hkl)).ext HE.out)
      have hz0' : -maxI ≤ z := by rw [hzz]; exact (HZ.out _ (List.getElem_mem _)).1
      have hz1' : z ≤ maxI := by rw [hzz]; exact (HZ.out _ (List.getElem_mem _)).2
      have HS := Lib.hid hs; have HZZ := Lib.hid hzz; clear hs hzz hck hc hb
      go_wp2_with (first | (go_at_call 79; refine (iBackCoin s b z _ (by exact HB.out.ext (ext1 _ _)) hz0' hz1').mono ?_; rintro e w1 ⟨rfl, hE1⟩; have HE1 := Lib.hid ((ext1 _ _).trans' hE1); clear hE1) | (at_builtin; refine wpList_append_own_at _ rfl (.tmp 22) (.tmp 24) 24 rfl w.heap.size 37 i0 _ 2 24 Tryz.underlying24 hi hz0 hz1 hz2 rfl (by decide) u4 cs.length (flat2 (cs.map plain)) rfl (owns_ext (owns_ext HO.out HE1.out) (ext2 _ _ _)) ⟨w1.heap.size + 1, 0, none⟩ 1 1 [.string s, .int .i64 z] rfl rfl (two_new1 _ _ _ _ _) (two_one _ _ rfl rfl) (by rw [HC.out]; unfold maxLen; omega) (by rw [HC.out]; omega) (by have := HE.out.size; have := HE1.out.size; simp; omega) ?_; intro v' w2 hown hgrow _ _; have R := Lib.hid (plain_push ((HO.out.ext HE1.out).ext (ext2 _ (.cells #[.string s, .int .i64 z] 37) (.cells #[.string s, .int .i64 z] 37))) ((HE.out.trans' HE1.out).trans' (ext2 _ _ _)) hown hgrow); clear hown hgrow))
      go_roundw
      case rel =>
        refine ⟨k + 1, cs ++ [(s, z)], by omega, by go_num, by simp [HC.out], ?_, R.out.1, R.out.2⟩
        rw [HV.out, List.take_succ_eq_append_getElem (by simpa using hkl), HS.out, HZZ.out]; simp [Co.val]
      case measure => simp [intOf]; omega
    · obtain rfl : k = n := by omega
      go_wp2
      go_ret2
      have hv : cs = l.map Co.val := by rw [HV.out, List.take_of_length_le (by simp [HL.out])]
      exact ⟨_, rfl, hv ▸ HO.out, HE.out⟩

end Go.Proofs.YtagfbefgcijegaaGreatDoor
