/-
  Decimals turned into plain data: LegacyDec.BigInt, impl.backDec (numbers of one word), backOne; DecCoins.Add.
  Lists of decimals turned into plain data: impl.backOne, backDecs; DecCoins.Add, impl.DecAdd.
  impl.DecAdd (sums of one word) and the laws' deciAwake: it returns true.
  The laws' deciAwake: it returns true.
-/
import Derived.Test.YtcoffndnfaemoaaGreatDoorDQuo
import Derived.Test.YtcoffndnfaemoaaGreatDoorGX
namespace Go.Proofs.YtcoffndnfaemoaaGreatDoor
open Go Go.RowKit

set_option maxRecDepth 100000 in
theorem dBigInt (x : Nat) (z : Int) (w : World) (hx : BigK w x z) (kz : Small z) : Calls Tryz.prog 141 #[.agg #[.pointer (some ⟨x, 0, none⟩)]] w (RetPK z w) := by
  have k0 := Lib.hid (blk_new0 w 84 [.pointer (some ⟨x, 0, none⟩)])
  have HX := Lib.hid hx; have KZ := Lib.hid kz
  have hxl := hx.lt
  clear hx kz
  go_enter Tryz.func141, Tryz.ntmps141
  go_wp2_with (fail)
  go_at_call 139
  refine (dIsNil x _).mono ?_
  rintro e w1 ⟨rfl, hE⟩
  have c0 : w1.cell? ⟨w.heap.size, 0, none⟩ = some (.pointer (some ⟨x, 0, none⟩)) := ((k0.out.ext hE).cell 0).trans rfl
  have HE := Lib.hid ((ext1 _ _).trans' hE)
  have sz := HE.out.size; have l0 := cell_lt c0
  clear hE
  go_wp2_with (fail)
  go_at_call 181
  refine (vSet w1.heap.size x z _ (HX.out.ext (HE.out.trans' (ext1 _ _))) (by omega) (blk_new0 w1 126 [.bool false, .slice none 0 0]) KZ.out).mono ?_
  rintro e w2 h2
  have HR := Lib.hid (h2.fin (HE.out.trans' (ext1 _ _)) (by omega))
  obtain ⟨rfl, -⟩ := h2
  go_wp2
  go_ret
  exact HR.out

/-- The whole part is a number of 64 bits. -/
def FitT (z : Int) : Prop := z.natAbs < 9223372036854775808000000000000000000
theorem fitT_len {xs : List Nat} (hN : Norm xs) (h : natOf xs < 9223372036854775808000000000000000000) : xs.length ≤ 2 := by
  rcases Nat.lt_or_ge 2 xs.length with h1 | h1
  · have h2 := natOf_ge hN (xs.length - 1) (by omega)
    have h3 : B64 ^ 2 ≤ B64 ^ (xs.length - 1) := Nat.pow_le_pow_right B64_pos (by omega)
    have h4 : 9223372036854775808000000000000000000 ≤ B64 ^ 2 := by unfold B64; decide
    omega
  · exact h1
theorem t18_words {w : World} {b : Nat} (h : BigAt w b T18) : ∃ A c y, Blk w b 126 [.bool false, .slice A 1 c] ∧ Words w A [y] ∧ Norm [y] ∧ natOf [y] = 1000000000000000000 := by
  obtain ⟨A, c, ws, neg, hb, hw, hl, hN, h0, hz⟩ := h
  have h18 : (T18 : Int) = 1000000000000000000 := rfl
  have hneg : neg = false := by
    cases neg
    · rfl
    · rw [h18] at hz; simp only [bigVal, if_true] at hz; omega
  subst hneg
  have hv : natOf ws = 1000000000000000000 := by rw [h18] at hz; simp only [bigVal] at hz; simp at hz; omega
  have hl1 := len_le_one hN (by rw [hv]; unfold B64; omega)
  match ws, hl1 with
  | [], _ => simp [natOf] at hv
  | [y], _ => exact ⟨A, c, y, hb, hw, hN, hv⟩

set_option maxRecDepth 100000 in
theorem vQuoRem18 (b rb x x' : Nat) (z : Int) (w : World) (hx : BigAt w x z) (hy : BigAt w x' T18) (hz : FitT z) (hb : Blk w b 126 [.bool false, .slice none 0 0]) (hr : Blk w rb 126 [.bool false, .slice none 0 0])
    (hne : b ≠ rb) (hxb : x ≠ b) (hyb : x' ≠ b) (hxr : x ≠ rb) (hyr : x' ≠ rb) :
    Calls Tryz.prog 140 #[.pointer (some ⟨b, 0, none⟩), .pointer (some ⟨x, 0, none⟩), .pointer (some ⟨x', 0, none⟩), .pointer (some ⟨rb, 0, none⟩)] w
      (RetQRI b rb (Int.tdiv z T18) (Int.tmod z T18) w) := by
  obtain ⟨A, c, xs, s, hbx, hwx, hlx, hNx, -, rfl⟩ := hx
  obtain ⟨B, d, y, hby, hwy, hNy, hvy⟩ := t18_words hy
  have e18 : T18 = (natOf [y] : Int) := by rw [hvy]; rfl
  unfold FitT at hz
  rw [natAbs_bigVal] at hz
  rw [e18]
  have hy18 : y = 1000000000000000000 := by rw [natOf_one] at hvy; exact hvy
  subst hy18
  have hlen := fitT_len hNx hz
  have H := fun W (e : Ext w W) => gDivT A B c d xs xs.length W (hwx.ext e) hNx rfl (by omega) hlx (hwy.ext e)
  rw [← natOf_one 1000000000000000000] at H
  exact vQuoRem s ((hbx.cell 0).trans rfl) ((hbx.cell 1).trans rfl) ((hby.cell 0).trans rfl) ((hby.cell 1).trans rfl) hb hr hne hxb hyb hxr hyr H

theorem dsmall_b64 {z : Int} (h : FitT z) : Small z := by
  have h2 : B64 ^ 2 ≤ B64 ^ 30 := Nat.pow_le_pow_right B64_pos (by omega)
  have h4 : 9223372036854775808000000000000000000 ≤ B64 ^ 2 := by unfold B64; decide
  unfold FitT at h
  unfold Small; omega
theorem tdiv_b {z : Int} (h : FitT z) : (-maxI ≤ Int.tdiv z T18 ∧ Int.tdiv z T18 ≤ maxI) ∧ (-maxI ≤ Int.tmod z T18 ∧ Int.tmod z T18 ≤ maxI) := by
  have h1 : (Int.tdiv z T18).natAbs = z.natAbs / 1000000000000000000 := by rw [Int.natAbs_tdiv]; rfl
  have h2 : (Int.tmod z T18).natAbs = z.natAbs % 1000000000000000000 := by rw [Int.natAbs_tmod]; rfl
  unfold maxI; unfold FitT at h
  omega
theorem only2_ext {b g : Nat} {w0 w w' : World} (e : Ext w0 w) (h : Only2 b g w w') (hb : w0.heap.size ≤ b) (hg : w0.heap.size ≤ g) : Ext w0 w' := Only2.ext e h hb hg

set_option maxRecDepth 100000 in
set_option maxHeartbeats 1000000 in
theorem iBackDec (x : Nat) (z : Int) (w : World) (hx : BigK w x z) (hz : FitT z) :
    Calls Tryz.prog 104 #[.agg #[.pointer (some ⟨x, 0, none⟩)]] w (RetE (.tuple #[.agg #[.int .i64 (Int.tdiv z T18), .int .i64 (Int.tmod z T18)], .bool true]) w) := by
  have k0 := Lib.hid ((blk_new0 w 84 [.pointer (some ⟨x, 0, none⟩)]).alloc (.cells #[.int .i64 0, .int .i64 0] 24))
  have k1 := Lib.hid (blk_new1 w (decBox x) 24 [.int .i64 0, .int .i64 0])
  have HX := Lib.hid hx; have HZ := Lib.hid hz
  have hxl := hx.lt
  obtain ⟨q, hq⟩ : ∃ q, q = Int.tdiv z T18 := ⟨_, rfl⟩
  obtain ⟨r, hr⟩ : ∃ r, r = Int.tmod z T18 := ⟨_, rfl⟩
  have HB := Lib.hid (show (-maxI ≤ q ∧ q ≤ maxI) ∧ (-maxI ≤ r ∧ r ≤ maxI) by rw [hq, hr]; exact tdiv_b hz)
  have HQ := Lib.hid hq; have HRR := Lib.hid hr
  rw [← hq, ← hr]
  clear hx hz hq hr
  go_enter Tryz.func104, Tryz.ntmps104
  go_wp2_with (fail)
  go_at_call 139
  refine (dIsNil x _).mono ?_
  rintro e w1 ⟨rfl, hE⟩
  have c0 : w1.cell? ⟨w.heap.size, 0, none⟩ = some (.pointer (some ⟨x, 0, none⟩)) := ((k0.out.ext hE).cell 0).trans rfl
  have K1 := Lib.hid (k1.out.ext hE)
  have HE := Lib.hid ((ext2 _ _ _).trans' hE)
  have sz := HE.out.size; have l0 := cell_lt c0
  clear hE
  go_wp2_with (fail)
  go_at_call 141
  refine (dBigInt x z _ (HX.out.ext (HE.out.trans' (ext1 _ _))) (dsmall_b64 HZ.out)).mono ?_
  rintro e w2 ⟨p2, rfl, hB2, hE2⟩
  have HB2 := Lib.hid hB2
  have HE2 := Lib.hid hE2
  clear hE2 hB2 c0 l0
  go_wp2_with (fail)
  go_at_call 87
  refine (iUnit _).mono ?_
  rintro e w3 ⟨p3, rfl, hB3, hE3⟩
  have HB3 := Lib.hid hB3
  have HE3 := Lib.hid hE3
  have s2 := HE2.out.size; have s3 := HE3.out.size
  have lq : w1.heap.size < w2.heap.size := by simp at s2; omega
  have m2 := HB2.out.1; have m3 := HB3.out.1
  clear hE3 hB3
  go_wp2_with (fail)
  go_at_call 140
  have E13 := (HE2.out.trans' HE3.out).trans' (ext1 w3 (.cells #[.bool false, .slice none 0 0] 126))
  have l2 := HB2.out.k.lt; have l3 := HB3.out.k.lt
  have m2' : w1.heap.size < p2 := by have : w1.heap.size + 1 ≤ p2 := by simpa using m2
                                     omega
  refine (vQuoRem18 w1.heap.size w3.heap.size p2 p3 z _ (((HB2.out.k).ext (HE3.out.trans' (ext1 _ _))).at_) (((HB3.out.k).ext (ext1 _ _)).at_) HZ.out ((blk_new0 w1 126 [.bool false, .slice none 0 0]).ext E13) (blk_new0 w3 126 [.bool false, .slice none 0 0]) (by omega) (by omega) (by omega) (by omega) (by omega)).mono ?_
  rw [← HQ.out, ← HRR.out]
  rintro e w4 ⟨rfl, hq4, hr4, ho⟩
  have k1l := K1.out.lt
  have kne : w.heap.size + 1 ≠ w1.heap.size := by omega
  have k1' := ho.blk (K1.out.ext ((ext1 _ _).trans' E13)) kne (by omega)
  have d0 : w4.cell? ⟨w.heap.size + 1, 0, none⟩ = some (.int .i64 0) := (k1'.cell 0).trans rfl
  have d1 : w4.cell? ⟨w.heap.size + 1, 1, none⟩ = some (.int .i64 0) := (k1'.cell 1).trans rfl
  have f0 := k1'.frozen 0; have f1 := k1'.frozen 1
  have HEW := Lib.hid (Only2.ext (HE.out.trans' ((ext1 _ _).trans' E13)) ho (by omega) (by omega))
  have HI := Lib.hid (intIsInt64 (.pointer (some ⟨w1.heap.size, 0, none⟩)) q w4 ⟨_, rfl, hq4⟩ HB.out.1.1 HB.out.1.2)
  have H1 := Lib.hid (intInt64 (.pointer (some ⟨w1.heap.size, 0, none⟩)) q w4 ⟨_, rfl, hq4⟩ HB.out.1.1 HB.out.1.2)
  have H2 := Lib.hid (intInt64 (.pointer (some ⟨w3.heap.size, 0, none⟩)) r w4 ⟨_, rfl, hr4⟩ HB.out.2.1 HB.out.2.2)
  clear E13 l2 l3 m2 m2' m3 hq4 hr4 ho k1l kne k1'
  go_wp2_with (fail)
  go_at_call 142
  refine HI.out.mono ?_
  rintro e w5 ⟨rfl, h5⟩
  obtain rfl := h5
  go_wp2_with (fail)
  go_at_call 143
  refine H1.out.mono ?_
  rintro e w5 ⟨rfl, h5⟩
  obtain rfl := h5
  go_wp2_with (fail)
  go_at_call 143
  refine H2.out.mono ?_
  rintro e w5 ⟨rfl, h5⟩
  obtain rfl := h5
  go_wp2
  exact bodyPost_ret (v := .tuple #[.agg #[.int .i64 q, .int .i64 r], .bool true]) (by simp [results, Tryz.results104, go_sem, d0, d1]) rfl ⟨rfl, Only.ext HEW.out (((Only.refl _ _).set_ 0 _).set_ 1 _) (by omega)⟩
end Go.Proofs.YtcoffndnfaemoaaGreatDoor

namespace Go.Proofs.YtcoffndnfaemoaaGreatDoor
open Go Go.RowKit

theorem cell_three_new (w : World) (a b c : Value) (t : TypeId) : ∀ j u, [a, b, c][j]? = some u → (w.alloc (.cells #[a, b, c] t)).cell? ((⟨w.heap.size, 0, none⟩ : Addr).add j) = some u := by
  intro j u hj
  match j, hj with
  | 0, hj => simp at hj; subst hj; simp [Addr.add]
  | 1, hj => simp at hj; subst hj; simp [Addr.add]
  | 2, hj => simp at hj; subst hj; simp [Addr.add]
  | (j + 3), hj => simp at hj
theorem three_new1 (w : World) (o : Obj) (a b c : Value) (t : TypeId) : ∀ j u, [a, b, c][j]? = some u → ((w.alloc o).alloc (.cells #[a, b, c] t)).cell? ((⟨w.heap.size + 1, 0, none⟩ : Addr).add j) = some u := by
  have := cell_three_new (w.alloc o) a b c t
  rwa [show (w.alloc o).heap.size = w.heap.size + 1 by simp] at this
theorem three_one (a b c : Value) (ha : a.oneCell' = true) (hb : b.oneCell' = true) (hc : c.oneCell' = true) : ∀ u ∈ [a, b, c], u.oneCell' = true := by
  intro u hu
  simp at hu
  rcases hu with rfl | rfl | rfl <;> assumption
/-- A decimal coin's plain data. -/
def dback (x : ByteArray × Int) : DP := (x.1, Int.tdiv x.2 T18, Int.tmod x.2 T18)
/-- Plain decimal coins handed back, none refused. -/
def RetDBack (l : List DP) (w : World) (e : Ending) (w' : World) : Prop := ∃ v, e = .returned (.tuple #[v, .bool true]) ∧ DPlainOwn w' w.heap.size v l ∧ Ext w w'

set_option maxRecDepth 100000 in
set_option maxHeartbeats 1000000 in
theorem iBackOne (s : ByteArray) (x : Nat) (z : Int) (w : World) (hx : BigK w x z) (hz : FitT z) :
    Calls Tryz.prog 81 #[dcV s x] w (RetE (.tuple #[dpV s (Int.tdiv z T18) (Int.tmod z T18), .bool true]) w) := by
  have k0 := Lib.hid ((blk_new0 w 118 [.string s, .pointer (some ⟨x, 0, none⟩)]).alloc (.cells #[.string ByteArray.empty, .int .i64 0, .int .i64 0] 48))
  have k1 := Lib.hid (blk_new1 w (dcBox s x) 48 [.string ByteArray.empty, .int .i64 0, .int .i64 0])
  have H := Lib.hid (iBackDec x z _ (hx.ext (ext2 w (dcBox s x) (.cells #[.string ByteArray.empty, .int .i64 0, .int .i64 0] 48))) hz)
  obtain ⟨q, hq⟩ : ∃ q, q = Int.tdiv z T18 := ⟨_, rfl⟩
  obtain ⟨r, hr⟩ : ∃ r, r = Int.tmod z T18 := ⟨_, rfl⟩
  rw [← hq, ← hr] at H
  rw [← hq, ← hr]
  clear hx hz hq hr
  go_enter Tryz.func81, Tryz.ntmps81
  go_wp2_with (fail)
  go_at_call 104
  refine H.out.mono ?_
  rintro e w1 ⟨rfl, hE⟩
  have c0 : w1.cell? ⟨w.heap.size, 0, none⟩ = some (.string s) := ((k0.out.ext hE).cell 0).trans rfl
  have k := k1.out.ext hE
  have d0 : w1.cell? ⟨w.heap.size + 1, 0, none⟩ = some (.string ByteArray.empty) := (k.cell 0).trans rfl
  have d1 : w1.cell? ⟨w.heap.size + 1, 1, none⟩ = some (.int .i64 0) := (k.cell 1).trans rfl
  have d2 : w1.cell? ⟨w.heap.size + 1, 2, none⟩ = some (.int .i64 0) := (k.cell 2).trans rfl
  have f0 := k.frozen 0; have f1 := k.frozen 1; have f2 := k.frozen 2
  have l1 := k.lt; have l0 := cell_lt c0
  have HE := Lib.hid ((ext2 _ _ _).trans' hE)
  have kf := (((k.set_ 0 (.string s)).set_ 1 (.int .i64 q)).set_ 2 (.int .i64 r)).alloc (.cells #[.int .i64 q, .int .i64 r] 24)
  have HF0 := Lib.hid (kf.cell 0); have HF1 := Lib.hid (kf.cell 1); have HF2 := Lib.hid (kf.cell 2)
  clear hE k kf
  go_wp2
  have e0 := HF0.out; have e1 := HF1.out; have e2 := HF2.out
  simp only [List.set_cons_zero, List.set_cons_succ] at e0 e1 e2
  exact bodyPost_ret (v := .tuple #[dpV s q r, .bool true]) (by simp [results, Tryz.results81, go_sem, e0, e1, e2]) rfl ⟨rfl, (Only.ext HE.out ((((Only.refl _ _).set_ 0 _).set_ 1 _).set_ 2 _) (by omega)).trans' (ext1 _ _)⟩

set_option maxRecDepth 100000 in
set_option maxHeartbeats 1000000 in
theorem iBackDecs (A : Option Addr) (n c : Nat) (l : List Co) (w : World) (hl : l.length = n) (hn : n ≤ 1000000) (h : DCoinsAt w A l) (hz : ∀ x ∈ l, FitT x.z) :
    Calls Tryz.prog 46 #[.slice A n c] w (RetDBack (l.map fun x => dback x.val) w) := by
  obtain ⟨i0, hi, hz0, hz1, hz2⟩ := info_parts infoDPlan
  have HL := Lib.hid hl; have HP := Lib.hid h; have HZ := Lib.hid hz
  clear hl h hz
  go_enter Tryz.func46, Tryz.ntmps46
  go_wp2
  go_loopw [4, 11] (fun v i wr => ∃ (k : Nat) (cs : List DP), k ≤ n ∧ i = .int .i64 k ∧ cs.length = k ∧ cs = (l.map fun x => dback x.val).take k ∧ DPlainOwn wr w.heap.size v cs ∧ Ext w wr) (fun _ i _ => n - (intOf i).toNat)
  case atStart => exact ⟨0, [], Nat.zero_le _, rfl, rfl, rfl, DPlainOwn.nil _ _, Ext.refl _⟩
  case round =>
    obtain ⟨k, cs, hk, rfl, hcl, hcv, hown, hE⟩ := hrel
    have HC := Lib.hid hcl; have HV := Lib.hid hcv; have HO := Lib.hid hown; have HE := Lib.hid hE
    clear hcl hcv hown hE
    by_cases hlt : k < n
    · have hkl : k < l.length := by rw [HL.out]; exact hlt
      obtain ⟨s, hs⟩ : ∃ s, s = l[k].s := ⟨_, rfl⟩
      obtain ⟨b, hb⟩ : ∃ b, b = l[k].b := ⟨_, rfl⟩
      obtain ⟨z, hzz⟩ : ∃ z, z = l[k].z := ⟨_, rfl⟩
      obtain ⟨g, o, hA, hc⟩ := HP.out.1 (by intro e; have := congrArg List.length e; simp at this; rw [this] at hkl; simp at hkl)
      subst hA
      have hck := hc k (by simpa using hkl)
      have cs0 : wr.cell? ⟨g, o + k * 2, none⟩ = some (.string s) := HE.out.cell' (by rw [hck.1, hs]; simp [Co.pair])
      have cs1 : wr.cell? ⟨g, o + k * 2 + 1, none⟩ = some (.pointer (some ⟨b, 0, none⟩)) := HE.out.cell' (by rw [hck.2, hb]; simp [Co.pair])
      have HB := Lib.hid (show BigK wr b z by rw [hb, hzz]; exact (HP.out.2 _ (List.getElem_mem hkl)).ext HE.out)
      have hz0' : FitT z := by rw [hzz]; exact HZ.out _ (List.getElem_mem _)
      have HZB := Lib.hid hz0'
      obtain ⟨x, hxx⟩ : ∃ x, x = Int.tdiv z T18 := ⟨_, rfl⟩
      obtain ⟨y, hyy⟩ : ∃ y, y = Int.tmod z T18 := ⟨_, rfl⟩
      have HS := Lib.hid (show dback (l[k]).val = (s, x, y) by rw [hxx, hyy, hs, hzz]; rfl)
      have HXX := Lib.hid hxx; have HYY := Lib.hid hyy; clear hs hzz hck hc hb hz0' hxx hyy
      go_wp2_with (first | (go_at_call 81; refine (iBackOne s b z _ (by exact HB.out.ext (ext1 _ _)) HZB.out).mono ?_; rw [← HXX.out, ← HYY.out]; rintro e w1 ⟨rfl, hE1⟩; have HE1 := Lib.hid ((ext1 _ _).trans' hE1); clear hE1) | (at_builtin; refine wpList_append_own_at _ rfl (.tmp 22) (.tmp 24) 22 rfl w.heap.size 48 i0 _ 3 32 Tryz.underlying22 hi hz0 hz1 hz2 rfl (by decide) u4 cs.length (flat3 (cs.map dplain)) rfl (owns_ext (owns_ext HO.out HE1.out) (ext2 _ _ _)) ⟨w1.heap.size + 1, 0, none⟩ 1 1 [.string s, .int .i64 x, .int .i64 y] rfl rfl (three_new1 _ _ _ _ _ _) (three_one _ _ _ rfl rfl rfl) (by rw [HC.out]; unfold maxLen; omega) (by rw [HC.out]; omega) (by have := HE.out.size; have := HE1.out.size; simp; omega) ?_; intro v' w2 hown hgrow _ _; have R := Lib.hid (dplain_push ((HO.out.ext HE1.out).ext (ext2 _ (.cells #[.string s, .int .i64 x, .int .i64 y] 48) (.cells #[.string s, .int .i64 x, .int .i64 y] 48))) ((HE.out.trans' HE1.out).trans' (ext2 _ _ _)) hown hgrow); clear hown hgrow))
      go_roundw
      case rel =>
        refine ⟨k + 1, cs ++ [(s, x, y)], by omega, by go_num, by simp [HC.out], ?_, R.out.1, R.out.2⟩
        rw [HV.out, List.take_succ_eq_append_getElem (by simpa using hkl), List.getElem_map, HS.out]
      case measure => simp [intOf]; omega
    · obtain rfl : k = n := by omega
      go_wp2
      go_ret2
      have hv : cs = l.map fun x => dback x.val := by rw [HV.out, List.take_of_length_le (by simp [HL.out])]
      exact ⟨_, rfl, hv ▸ HO.out, HE.out⟩

theorem tdAddCoins (A B : Option Addr) (n c m d : Nat) (la lb : List Co) (w : World) (hla : la.length = n) (hlb : lb.length = m) (hn : n ≤ 100000) (hm : m ≤ 100000) (hcn : n ≤ c) (hdm : m ≤ d) (hA : DCoinsAt w A la) (hB : DCoinsAt w B lb)
    (hz : ∀ x ∈ la, ∀ y ∈ lb, x.s = y.s → Small x.z ∧ Small y.z ∧ InR (x.z + y.z)) (hT : Thr w) :
    Calls Tryz.prog 80 #[.slice A n c, .slice B m d] w (RetDCoins (dmrg (la.map Co.val) (lb.map Co.val)) w) := by
  have H := Lib.hid (tdSafeAdd A B n c m d la lb w hla hlb hn hm hcn hdm hA hB hz hT)
  clear hla hlb hA hB hz hT
  go_enter Tryz.func80, Tryz.ntmps80
  go_wp2_with (go_at_call 125; refine H.out.mono ?_; rintro e w' ⟨v, cs, rfl, hv, ho, hE⟩; have HV := Lib.hid hv; have HO := Lib.hid ho; have HE := Lib.hid hE; clear hv ho hE)
  go_ret
  exact ⟨_, cs, rfl, HV.out, HO.out, HE.out⟩
end Go.Proofs.YtcoffndnfaemoaaGreatDoor

namespace Go.Proofs.YtcoffndnfaemoaaGreatDoor
open Go Go.RowKit

theorem decB_sum {a b c d : Int} (h : DecB a b) (k : DecB c d) : Small (decV a b) ∧ Small (decV c d) ∧ InR (decV a b + decV c d) := by
  refine ⟨(decB_small h).2.2, (decB_small k).2.2, ?_⟩
  obtain ⟨⟨h1, h2⟩, h3, h4⟩ := h
  obtain ⟨⟨k1, k2⟩, k3, k4⟩ := k
  unfold InR decV UPL T18
  omega
theorem val_len {cs : List Co} {l : List DP} (h : cs.map Co.val = l.map dval) : cs.length = l.length := by
  have := congrArg List.length h
  simpa using this

theorem vnz_len (l : List (ByteArray × Int)) : (vnz l).length ≤ l.length := List.length_filter_le _ _
theorem dmrg_len_aux (n : Nat) : ∀ (a b : List (ByteArray × Int)), a.length + b.length = n → (dmrg a b).length ≤ n := by
  induction n using Nat.strongRecOn with
  | ind n ih =>
  intro a b hn
  rcases a with _ | ⟨y, ys⟩
  · rw [dmrg_nil']; have := vnz_len b; simp at hn; omega
  · rcases b with _ | ⟨z, zs⟩
    · rw [dmrg_nil]; have := vnz_len (y :: ys); simp at hn this ⊢; omega
    · rw [dmrg_cons]
      simp only [List.length_cons] at hn
      split
      · have h1 := ih _ (by simp only [List.length_cons]; omega) ys (z :: zs) rfl
        have h2 := vnz_len [y]
        simp only [List.length_append, List.length_cons, List.length_nil] at h1 h2 ⊢; omega
      · split
        · have h1 := ih _ (by simp only [List.length_cons]; omega) (y :: ys) zs rfl
          have h2 := vnz_len [z]
          simp only [List.length_append, List.length_cons, List.length_nil] at h1 h2 ⊢; omega
        · have h1 := ih _ (by omega) ys zs rfl
          have h2 := vnz_len [(y.1, y.2 + z.2)]
          simp only [List.length_append, List.length_cons, List.length_nil] at h1 h2 ⊢; omega
theorem dmrg_len (a b : List (ByteArray × Int)) : (dmrg a b).length ≤ a.length + b.length := dmrg_len_aux _ a b rfl
theorem owns_base {w : World} {b b' : Nat} {v : Value} {l : List DP} (h : DPlainOwn w b v l) (hb : b' ≤ b) : DPlainOwn w b' v l := by
  refine ⟨h.1, ?_⟩
  rcases h.2 with h2 | ⟨g, cap, cur, hv, hg, r⟩
  · exact Or.inl h2
  · exact Or.inr ⟨g, cap, cur, hv, Nat.le_trans hb hg, r⟩

set_option maxRecDepth 100000 in
set_option maxHeartbeats 1000000 in
theorem iDecAdd (A B : Option Addr) (n c m d : Nat) (la lb : List DP) (w : World) (hla : la.length = n) (hlb : lb.length = m) (hn : n ≤ 100000) (hm : m ≤ 100000) (hA : DPlainAt w A la) (hB : DPlainAt w B lb)
    (hza : ∀ x ∈ la, DecB x.2.1 x.2.2) (hzb : ∀ x ∈ lb, DecB x.2.1 x.2.2) (hT : Thr w) (hs : ∀ x ∈ dmrg (la.map dval) (lb.map dval), FitT x.2) :
    Calls Tryz.prog 45 #[.slice A n c, .slice B m d] w (RetDBack ((dmrg (la.map dval) (lb.map dval)).map dback) w) := by
  have H1 := Lib.hid (iDecCoins A n c la w hla (by omega) hA hza hT)
  have H2 := Lib.hid (fun (W : World) (e : Ext w W) => iDecCoins B m d lb W hlb (by omega) (hB.ext e) hzb (hT.ext e))
  have H3 := Lib.hid (fun (W : World) (e : Ext w W) (A1 B1 : Option Addr) (c1 d1 : Nat) (ca cb : List Co) (va : ca.map Co.val = la.map dval) (vb : cb.map Co.val = lb.map dval) (h1 : n ≤ c1) (h2 : m ≤ d1) (k1 : DCoinsAt W A1 ca) (k2 : DCoinsAt W B1 cb) =>
    show Calls Tryz.prog 80 #[.slice A1 n c1, .slice B1 m d1] W (RetDCoins (dmrg (la.map dval) (lb.map dval)) W) by
      rw [← va, ← vb]
      refine tdAddCoins A1 B1 n c1 m d1 ca cb W ((val_len va).trans hla) ((val_len vb).trans hlb) hn hm h1 h2 k1 k2 ?_ (hT.ext e)
      intro x hx y hy _
      have hx' : x.val ∈ la.map dval := by rw [← va]; exact List.mem_map_of_mem hx
      have hy' : y.val ∈ lb.map dval := by rw [← vb]; exact List.mem_map_of_mem hy
      obtain ⟨p, hp, ep⟩ := List.mem_map.1 hx'
      obtain ⟨q, hq, eq⟩ := List.mem_map.1 hy'
      have e1 : x.z = decV p.2.1 p.2.2 := (congrArg Prod.snd ep).symm
      have e2 : y.z = decV q.2.1 q.2.2 := (congrArg Prod.snd eq).symm
      rw [e1, e2]
      exact decB_sum (hza p hp) (hzb q hq))
  obtain ⟨L, hL⟩ : ∃ L, L = dmrg (la.map dval) (lb.map dval) := ⟨_, rfl⟩
  have HS := Lib.hid (show (∀ x ∈ L, FitT x.2) by rw [hL]; exact hs)
  have HLEN := Lib.hid (show L.length ≤ n + m by rw [hL, ← hla, ← hlb]; have := dmrg_len (la.map dval) (lb.map dval); simpa using this)
  have HLA := Lib.hid hla; have HLB := Lib.hid hlb
  rw [← hL] at H3
  rw [← hL]
  clear hla hlb hA hB hza hzb hT hs hL
  go_enter Tryz.func45, Tryz.ntmps45
  go_wp2_with (fail)
  go_at_call 47
  refine H1.out.mono ?_
  rintro e w1 ⟨v1, ca, rfl, va, oa, hE1⟩
  obtain ⟨A1, c1, rfl, hc1⟩ := down_cap oa.1
  have la1 := (val_len va).trans HLA.out
  rw [la1] at hc1 ⊢
  have KA := Lib.hid (show DCoinsAt w1 A1 ca from dcoinsAt_own oa rfl)
  have VA := Lib.hid va; have HE1 := Lib.hid hE1; have HC1 := Lib.hid hc1
  clear va oa hE1 hc1 la1
  go_wp2_with (fail)
  go_at_call 47
  refine (H2.out _ HE1.out).mono ?_
  rintro e w2 ⟨v2, cb, rfl, vb, ob, hE2⟩
  obtain ⟨B1, d1, rfl, hd1⟩ := down_cap ob.1
  have lb1 := (val_len vb).trans HLB.out
  rw [lb1] at hd1 ⊢
  have KB := Lib.hid (show DCoinsAt w2 B1 cb from dcoinsAt_own ob rfl)
  have VB := Lib.hid vb; have HE2 := Lib.hid (HE1.out.trans' hE2); have HC2 := Lib.hid hd1; have KA2 := Lib.hid (KA.out.ext hE2)
  clear vb ob hE2 hd1 lb1
  go_wp2_with (fail)
  go_at_call 80
  refine (H3.out _ HE2.out A1 B1 c1 d1 ca cb VA.out VB.out HC1.out HC2.out KA2.out KB.out).mono ?_
  rintro e w3 ⟨v3, cs, rfl, vs, os, hE3⟩
  obtain ⟨A3, c3, rfl, hc3⟩ := down_cap os.1
  have KS := Lib.hid (show DCoinsAt w3 A3 cs from dcoinsAt_own os rfl)
  have VS := Lib.hid vs; have HE3 := Lib.hid (HE2.out.trans' hE3)
  have HL3 := Lib.hid (show cs.length ≤ 1000000 by
    have h9 := congrArg List.length VS.out
    rw [List.length_map] at h9
    have := HLEN.out; omega)
  have HZ3 := Lib.hid (show ∀ x ∈ cs, FitT x.z by
    intro x hx
    exact HS.out x.val (by rw [← VS.out]; exact List.mem_map_of_mem hx))
  clear vs os hE3 hc3
  go_wp2_with (fail)
  go_at_call 46
  refine (iBackDecs A3 cs.length c3 cs w3 rfl HL3.out KS.out HZ3.out).mono ?_
  rintro e w4 ⟨v4, rfl, ho, hE4⟩
  have HO := Lib.hid (show DPlainOwn w4 w.heap.size v4 (L.map dback) by
    rw [show L.map dback = cs.map (fun x => dback x.val) by rw [← VS.out, List.map_map]; rfl]
    exact owns_base ho HE3.out.size)
  have HE4 := Lib.hid (HE3.out.trans' hE4)
  clear ho hE4
  go_wp2
  go_ret2
  exact ⟨_, rfl, HO.out, HE4.out⟩
end Go.Proofs.YtcoffndnfaemoaaGreatDoor

namespace Go.Proofs.YtcoffndnfaemoaaGreatDoor
open Go Go.RowKit

abbrev kABC : ByteArray := ⟨#[97, 98, 99]⟩
theorem awakeMrg : dmrg ([(kABC, (1 : Int), (500000000000000000 : Int))].map dval) ([(kABC, (0 : Int), (500000000000000000 : Int))].map dval) = [(kABC, 2 * T18)] := by
  simp only [List.map_cons, List.map_nil]
  rw [show dval (kABC, (1 : Int), (500000000000000000 : Int)) = (kABC, 1500000000000000000) from rfl, show dval (kABC, (0 : Int), (500000000000000000 : Int)) = (kABC, 500000000000000000) from rfl, dmrg_cons, if_neg (by rw [keyLt_irrefl]; simp), if_neg (by rw [keyLt_irrefl]; simp), dmrg_nil]
  rfl
theorem dplain_one {W : World} {b : Nat} {s : ByteArray} {x y : Int} (h0 : W.cell? ⟨b, 0, none⟩ = some (.string s)) (h1 : W.cell? ⟨b, 1, none⟩ = some (.int .i64 x)) (h2 : W.cell? ⟨b, 2, none⟩ = some (.int .i64 y)) : DPlainAt W (some ⟨b, 0, none⟩) [(s, x, y)] := by
  intro _
  refine ⟨b, 0, rfl, fun j hj => ?_⟩
  obtain rfl : j = 0 := by simp at hj; omega
  exact ⟨by simpa [dplain] using h0, by simpa [dplain] using h1, by simpa [dplain] using h2⟩
theorem dplain_get {w : World} {base : Nat} {v : Value} {x : DP} (h : DPlainOwn w base v [x]) :
    ∃ g c, v = .slice (some ⟨g, 0, none⟩) 1 c ∧ w.cell? ⟨g, 0, none⟩ = some (.string x.1) ∧ w.cell? ⟨g, 1, none⟩ = some (.int .i64 x.2.1) ∧ w.cell? ⟨g, 2, none⟩ = some (.int .i64 x.2.2) := by
  obtain ⟨A, c, rfl, hc⟩ := down_cap h
  obtain ⟨g, o, rfl, hk⟩ := recAt3_of_owns (ps := [x].map dplain) rfl h (by simp)
  obtain ⟨g', cap, hv, _, _⟩ := World.ownsRow.form h (by simp)
  injection hv with hv _ _
  injection hv with hv
  injection hv with hg ho
  subst hg; subst ho
  have := hk 0 (by simp)
  exact ⟨g, c, rfl, by simpa [dplain] using this.1, by simpa [dplain] using this.2.1, by simpa [dplain] using this.2.2⟩

set_option maxRecDepth 100000 in
set_option maxHeartbeats 2000000 in
theorem deciAwake (w : World) (hT : Thr w) : Calls Tryz.prog 14 #[] w (RetE (.bool true) w) := by
  have k0 := (blk_new0 w 48 [.string kABC, .int .i64 1, .int .i64 500000000000000000]).alloc (dpBox kABC 0 500000000000000000)
  have k1 := blk_new1 w (dpBox kABC 1 500000000000000000) 48 [.string kABC, .int .i64 0, .int .i64 500000000000000000]
  have hA : DPlainAt ((w.alloc (dpBox kABC 1 500000000000000000)).alloc (dpBox kABC 0 500000000000000000)) (some ⟨w.heap.size, 0, none⟩) [(kABC, 1, 500000000000000000)] := dplain_one ((k0.cell 0).trans rfl) ((k0.cell 1).trans rfl) ((k0.cell 2).trans rfl)
  have hB : DPlainAt ((w.alloc (dpBox kABC 1 500000000000000000)).alloc (dpBox kABC 0 500000000000000000)) (some ⟨w.heap.size + 1, 0, none⟩) [(kABC, 0, 500000000000000000)] := dplain_one ((k1.cell 0).trans rfl) ((k1.cell 1).trans rfl) ((k1.cell 2).trans rfl)
  have H := Lib.hid (iDecAdd _ _ 1 1 1 1 _ _ _ rfl rfl (by omega) (by omega) hA hB (by intro x hx; simp at hx; subst hx; show DecB 1 500000000000000000; unfold DecB; omega) (by intro x hx; simp at hx; subst hx; show DecB 0 500000000000000000; unfold DecB; omega) (hT.ext (ext2 _ _ _)) (by
    intro x hx
    rw [awakeMrg] at hx
    simp at hx; subst hx
    unfold FitT T18; decide))
  rw [awakeMrg, show [(kABC, 2 * T18)].map dback = [(kABC, (2 : Int), (0 : Int))] from rfl] at H
  clear k0 k1 hA hB hT
  go_enter Tryz.func14, Tryz.ntmps14
  go_wp2_with (fail)
  go_at_call 45
  refine H.out.mono ?_
  rintro e w1 ⟨v, rfl, ho, hE⟩
  obtain ⟨g, c, rfl, hc0, hc1, hc2⟩ := dplain_get ho
  have HE := Lib.hid hE
  clear ho hE
  go_wp2
  go_ret
  exact ⟨rfl, (ext2 _ _ _).trans' HE.out⟩
end Go.Proofs.YtcoffndnfaemoaaGreatDoor
