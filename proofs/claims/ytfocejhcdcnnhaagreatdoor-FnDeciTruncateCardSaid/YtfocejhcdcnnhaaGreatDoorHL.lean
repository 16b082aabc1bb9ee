/-
  The decimal of a whole number: calcPrecisionMultiplier at 0, LegacyNewDecFromInt; NewInt with the words' own block known, for all int64.
  impl.coins, the words of each amount in a block of their own, for all int64.
  NewCoins of coins that make a set; NewDecCoinFromCoin.
  NewDecCoinsFromCoins of coins that make a set.
  impl.DecFrom: decimal coins out of whole ones.
  The sizes of a list of plain coins; a decimal of a whole number in the specification; append of plain coins.
-/
import Derived.Test.YtfocejhcdcnnhaaGreatDoorGP
import Derived.Test.YtfocejhcdcnnhaaGreatDoorGB
import Derived.Test.YtfocejhcdcnnhaaGreatDoorGQ
import Derived.Test.YtfocejhcdcnnhaaGreatDoorHJ
import Derived.Test.YtfocejhcdcnnhaaGreatDoorHK
import Derived.Test.YtfocejhcdcnnhaaGreatDoorGY
import Derived.Test.YtfocejhcdcnnhaaGreatDoorHI
import Derived.Test.YtfocejhcdcnnhaaGreatDoorHE
import Derived.Test.YtfocejhcdcnnhaaGreatDoorGT
import Derived.Test.YtfocejhcdcnnhaaGreatDoorGV
namespace Go.Proofs.YtfocejhcdcnnhaaGreatDoor
open Go Go.RowKit

set_option maxRecDepth 100000 in
theorem dCalc0 (w : World) (hT : Thr w) : Calls Tryz.prog 171 #[.int .i64 0] w (RetPK T18 w) := by
  have HB := Lib.hid (new0 w)
  have E0 := Lib.hid (Ext.alloc' w (.cells #[.bool false, .slice none 0 0] 120))
  have HT := Lib.hid hT; clear hT
  go_enter Tryz.func171, Tryz.ntmps171
  go_wp2_with (fail)
  go_at_call 216
  refine (dTen _).mono ?_
  rintro e w1 ⟨p1, rfl, h1, x1⟩
  have E1 := Lib.hid x1; have H1 := Lib.hid h1; clear x1 h1
  go_wp2_with (fail)
  go_at_call 79
  refine (kNew 18 w1 (by omega) (by omega)).mono ?_
  rintro e w2 ⟨p2, rfl, h2, x2⟩
  have hE := E1.out.trans' x2
  have n1 : p1 ≠ w.heap.size := by have := H1.out.1; have := E0.out.size; simp at *; omega
  have n2 : p2 ≠ w.heap.size := by have := h2.1; have := E1.out.size; simp at *; omega
  have HX := Lib.hid (vExpo w.heap.size p1 p2 10 18 4 2 w2 (HB.out.ext hE) (H1.out.k.ext x2) h2.k n1 n2 (by unfold B64; omega) (by unfold B64; omega) (by omega) (by omega) rfl (by omega) (by omega) (by omega) bl18 p18 (HT.out.ext (E0.out.trans' hE)))
  have HE := Lib.hid (E0.out.trans' hE)
  clear hE h2 x2 n1 n2
  go_wp2_with (fail)
  go_at_call 215
  refine HX.out.mono ?_
  rintro e w3 h3
  obtain ⟨b, rfl, hf, hx⟩ := h3.fin HE.out (Nat.le_refl _)
  have HF := Lib.hid hf; have HX3 := Lib.hid hx
  clear h3 hf hx
  go_wp2
  go_ret
  exact ⟨b, rfl, HF.out, HX3.out⟩
set_option maxRecDepth 100000 in
theorem dPM0 (w : World) (hT : Thr w) : Calls Tryz.prog 124 #[.int .i64 0] w (RetPK T18 w) := by
  have HT := Lib.hid hT; clear hT
  go_enter Tryz.func124, Tryz.ntmps124
  go_wp2_with (go_at_call 171; refine (dCalc0 _ HT.out).mono ?_; rintro e w1 ⟨p1, rfl, hr⟩; have HR := Lib.hid hr; clear hr)
  go_ret
  exact ⟨_, rfl, HR.out⟩
set_option maxRecDepth 100000 in
theorem mBigMut (b : Nat) (z : Int) (w : World) (h : BigK w b z) : Calls Tryz.prog 220 #[.agg #[.pointer (some ⟨b, 0, none⟩)]] w (RetE (.pointer (some ⟨b, 0, none⟩)) w) := by
  have HB := Lib.hid (h.at_.ext (ext1 w (intBox b))); clear h
  have kb := Lib.hid (blk_new0 w 137 [.pointer (some ⟨b, 0, none⟩)])
  go_enter Tryz.func220, Tryz.ntmps220
  go_wp2_with (go_at_call 177; refine (mIsNil b z _ (by exact HB.out)).mono ?_; rintro e w1 ⟨rfl, hE⟩; have HE1 := Lib.hid hE; clear hE; have p1 : w1.cell? ⟨w.heap.size, 0, none⟩ = some (.pointer (some ⟨b, 0, none⟩)) := ((kb.out.ext HE1.out).cell 0).trans rfl)
  go_ret
  exact ⟨rfl, (ext1 _ _).trans' HE1.out⟩

theorem smallT : Small T18 := smallU.2.2.2.1
set_option maxRecDepth 100000 in
theorem dFromIntP (x : Nat) (z : Int) (w : World) (hx : BigK w x z) (kz : Small z) (hT : Thr w) : Calls Tryz.prog 179 #[.agg #[.pointer (some ⟨x, 0, none⟩)], .int .i64 0] w (RetDK (z * T18) w) := by
  have e3 := ext3 w (intBox x) (.cells #[.pointer none] 77) (.cells #[.bool false, .slice none 0 0] 120)
  have hbi := ((Blk.new w 137 [.pointer (some ⟨x, 0, none⟩)]).alloc (.cells #[.pointer none] 77)).alloc (.cells #[.bool false, .slice none 0 0] 120)
  have hbr := (blk_new1 w (intBox x) 77 [.pointer none]).alloc (.cells #[.bool false, .slice none 0 0] 120)
  have hbb := blk_new2 w (intBox x) (.cells #[.pointer none] 77) 120 [.bool false, .slice none 0 0]
  have E3 := Lib.hid e3; have HI := Lib.hid hbi; have HR := Lib.hid hbr; have HB := Lib.hid hbb; have HX := Lib.hid hx; have HT := Lib.hid hT
  have hxl := hx.lt
  clear e3 hbi hbr hbb hx hT
  go_enter Tryz.func179, Tryz.ntmps179
  go_wp2_with (fail)
  go_at_call 220
  refine (mBigMut x z _ (HX.out.ext E3.out)).mono ?_
  rintro e w0 ⟨rfl, x0⟩
  have E0 := Lib.hid (E3.out.trans' x0); have X0 := Lib.hid x0; clear x0
  go_wp2_with (fail)
  go_at_call 124
  refine (dPM0 _ (HT.out.ext E0.out)).mono ?_
  rintro e w1 ⟨p1, rfl, h1, x1⟩
  have hE := E0.out.trans' x1
  have n1 : x ≠ p1 := by have := h1.1; have := E0.out.size; omega
  have HM := Lib.hid (nMul (w.heap.size + 2) x p1 z T18 w1 (HB.out.ext (X0.out.trans' x1)) (HX.out.ext hE) h1.k kz smallT n1 (HT.out.ext hE))
  have HE := Lib.hid hE; have HR1 := Lib.hid (HR.out.ext (X0.out.trans' x1))
  clear hE n1 x1 h1
  go_wp2_with (fail)
  go_at_call 78
  refine HM.out.mono ?_
  rintro e w2 h2
  obtain ⟨rfl, hf, ho⟩ := h2.bf HE.out (by omega)
  have hk := ho.block' HR1.out (by omega)
  have c0 : w2.cell? ⟨w.heap.size + 1, 0, none⟩ = some (.pointer none) := (hk.cell 0).trans rfl
  have fz := hk.frozen 0
  have HF := Lib.hid (fun v => dec_fin (v := v) HE.out hf ho (by omega) (by omega) hk)
  clear h2 hf ho hk
  go_wp2
  exact bodyPost_ret (v := .agg #[.pointer (some ⟨w.heap.size + 2, 0, none⟩)]) (by simp [results, Tryz.results179, go_sem, c0]) rfl ⟨_, rfl, HF.out _⟩
set_option maxRecDepth 100000 in
theorem dFromInt (x : Nat) (z : Int) (w : World) (hx : BigK w x z) (kz : Small z) (hT : Thr w) : Calls Tryz.prog 134 #[.agg #[.pointer (some ⟨x, 0, none⟩)]] w (RetDK (z * T18) w) := by
  have E2 := Lib.hid (ext2 w (intBox x) (.cells #[.pointer none] 77))
  have k1 := Lib.hid (blk_new1 w (intBox x) 77 [.pointer none])
  have H := Lib.hid (dFromIntP x z _ (hx.ext E2.out) kz (hT.ext E2.out))
  clear hx hT
  go_enter Tryz.func134, Tryz.ntmps134
  go_wp2_with (fail)
  go_at_call 179
  refine H.out.mono ?_
  rintro e w1 ⟨b, rfl, hB, hE⟩
  have hk := k1.out.ext hE
  have c0 : w1.cell? ⟨w.heap.size + 1, 0, none⟩ = some (.pointer none) := (hk.cell 0).trans rfl
  have fz := hk.frozen 0
  have HF := Lib.hid (fun v => And.intro ((hB.old E2.out).set_ hk 0 v) (Only.ext (E2.out.trans' hE) ((Only.refl (w.heap.size + 1) w1).set_ 0 v) (by omega)))
  clear hk hB hE
  go_wp2
  exact bodyPost_ret (v := .agg #[.pointer (some ⟨b, 0, none⟩)]) (by simp [results, Tryz.results134, go_sem, c0]) rfl ⟨b, rfl, HF.out _⟩

set_option maxRecDepth 100000 in
theorem kNewNegW (x : Nat) (w : World) (h0 : 0 < x) (h1 : x ≤ 9223372036854775808) : Calls Tryz.prog 79 #[.int .i64 (-(x : Int))] w (RetPK (-(x : Int)) w) := by
  have e : (-(x : Int) == 0) = false := by simp; omega
  have e' : decide (-(x : Int) < 0) = true := by simp; omega
  have E := Lib.hid (show IntKind.u64.wrap (-IntKind.u64.wrap (-(x : Int))) = -(-(x : Int)) by simp only [IntKind.wrap_u64]; omega)
  have H := Lib.hid (bigF_one w x true (by unfold B64; omega) (by omega))
  go_enter Tryz.func79, Tryz.ntmps79
  go_wp2
  go_ret
  refine ⟨_, rfl, ?_, (Ext.alloc' _ _).trans' (Ext.alloc' _ _)⟩
  rw [E.out, Int.neg_neg]
  simpa [bigVal, natOf_one] using H.out
theorem kNewW (x : Int) (w : World) (h0 : -9223372036854775808 ≤ x) (h1 : x ≤ 9223372036854775807) : Calls Tryz.prog 79 #[.int .i64 x] w (RetPK x w) := by
  rcases Int.lt_trichotomy x 0 with h | rfl | h
  · obtain ⟨n, rfl⟩ : ∃ n : Nat, x = -(n : Int) := ⟨(-x).toNat, by omega⟩
    exact kNewNegW n w (by omega) (by omega)
  · exact kNewZero w
  · obtain ⟨n, rfl⟩ : ∃ n : Nat, x = n := ⟨x.toNat, by omega⟩
    exact kNewPos n w (by omega) (by omega)
/-- An Int handed back, its words in a block of their own. -/
def RetIK (z : Int) (w : World) (e : Ending) (w' : World) : Prop := ∃ b, e = .returned (.agg #[.pointer (some ⟨b, 0, none⟩)]) ∧ BigK w' b z ∧ Ext w w'
set_option maxRecDepth 100000 in
theorem mNewIntK (x : Int) (w : World) (h0 : -9223372036854775808 ≤ x) (h1 : x ≤ 9223372036854775807) : Calls Tryz.prog 132 #[.int .i64 x] w (RetIK x w) := by
  have nb := Lib.hid (Blk.new w 137 [.pointer none])
  go_enter Tryz.func132, Tryz.ntmps132
  go_wp2_with (go_at_call 79; refine (kNewW x _ h0 h1).mono ?_; rintro e w' ⟨b, rfl, hB, hE⟩; have HB := Lib.hid hB; have b1 := Lib.hid (nb.out.ext hE); have HE := Lib.hid hE; clear hB hE; have c0 : w'.cell? ⟨w.heap.size, 0, none⟩ = some (.pointer none) := (b1.out.cell 0).trans rfl; have fz := b1.out.frozen 0)
  exact bodyPost_ret (v := .agg #[.pointer (some ⟨b, 0, none⟩)]) (by simp [results, Tryz.results132, go_sem, c0]) rfl ⟨b, rfl, HB.out.k.set_ b1.out 0 _, Only.ext ((Ext.alloc' _ _).trans' HE.out) ((Only.refl _ _).set_ 0 _) (Nat.le_refl _)⟩
/-- A coin handed back, its amount's words in a block of their own. -/
def RetCoinK (s : ByteArray) (z : Int) (w : World) (e : Ending) (w' : World) : Prop := ∃ b, e = .returned (coinV s b) ∧ BigK w' b z ∧ Ext w w'
set_option maxRecDepth 100000 in
theorem iCoinK (s : ByteArray) (n : Int) (w : World) (h0 : -9223372036854775808 ≤ n) (h1 : n ≤ 9223372036854775807) : Calls Tryz.prog 99 #[.agg #[.string s, .int .i64 n]] w (RetCoinK s n w) := by
  have k1 := Lib.hid ((blk_new0 w 51 [.string s, .int .i64 n]).alloc (.cells #[.string ByteArray.empty, .pointer none] 139))
  have k2 := Lib.hid (blk_new1 w (planBox s n) 139 [.string ByteArray.empty, .pointer none])
  go_enter Tryz.func99, Tryz.ntmps99
  go_wp2
  go_region_law (first | (go_simp; go_at_call 132; refine (mNewIntK n _ h0 h1).mono ?_; rintro e w1 ⟨b, rfl, hB, hE⟩; have hE' := Ext.undrew hE; have HB := Lib.hid hB; have HE := Lib.hid hE'; have s0 : w1.cell? ⟨w.heap.size, 0, none⟩ = some (.string s) := (((k1.out).ext hE').cell 0).trans rfl; have d0 : w1.cell? ⟨w.heap.size + 1, 0, none⟩ = some (.string ByteArray.empty) := (((k2.out).ext hE').cell 0).trans rfl; have d1 : w1.cell? ⟨w.heap.size + 1, 1, none⟩ = some (.pointer none) := (((k2.out).ext hE').cell 1).trans rfl; have f0 := ((k2.out).ext hE').frozen 0; have f1 := ((k2.out).ext hE').frozen 1; clear hE hE' hB))
  all_goals go_wp2
  all_goals exact bodyPost_ret (v := coinV s b) (by simp [results, Tryz.results99, go_sem, d0, d1]) rfl ⟨b, rfl, (HB.out.set_ (k2.out.ext HE.out) 0 _).set_ ((k2.out.ext HE.out).set_ 0 _) 1 _, Only.ext ((ext2 _ _ _).trans' HE.out) (((Only.refl _ _).set_ 0 _).set_ 1 _) (by omega)⟩
end Go.Proofs.YtfocejhcdcnnhaaGreatDoor

namespace Go.Proofs.YtfocejhcdcnnhaaGreatDoor
open Go Go.RowKit

/-- Coins handed back. -/
def RetCoinsK (l : List (ByteArray × Int)) (w : World) (e : Ending) (w' : World) : Prop :=
  ∃ v cs, e = .returned v ∧ cs.map Co.val = l ∧ CoinsOwn w' w.heap.size v cs ∧ DBigs w' cs ∧ Ext w w'
theorem dbigs_push {w1 w2 : World} {base : Nat} {v : Value} {cs : List Co} {s : ByteArray} {b : Nat} {z : Int} (h : CoinsOwn w1 base v cs) (hd : DBigs w1 cs) (hB : BigK w1 b z) (hg : w1.grownBy w2 v.ownBlock) : DBigs w2 (cs ++ [⟨s, b, z⟩]) := fun c hc => by
  rcases List.mem_append.1 hc with hc | hc
  · exact (hd c hc).grown h.1 hg
  · simp at hc; subst hc; exact hB.grown h.1 hg

set_option maxRecDepth 100000 in
set_option maxHeartbeats 400000 in
theorem iCoinsK (A : Option Addr) (n c : Nat) (l : List (ByteArray × Int)) (w : World) (hl : l.length = n) (hn : n ≤ 1000000) (h : PlainAt w A l) (hz : ∀ x ∈ l, -9223372036854775808 ≤ x.2 ∧ x.2 ≤ 9223372036854775807) :
    Calls Tryz.prog 60 #[.slice A n c] w (RetCoinsK l w) := by
  obtain ⟨i0, hi, hz0, hz1, hz2⟩ := info_parts infoCoin
  have HL := Lib.hid hl; have HP := Lib.hid h; have HZ := Lib.hid hz
  clear hl h hz
  go_enter Tryz.func60, Tryz.ntmps60
  go_wp2
  go_loopw [3, 8] (fun v i wr => ∃ (k : Nat) (cs : List Co), k ≤ n ∧ i = .int .i64 k ∧ cs.length = k ∧ cs.map Co.val = l.take k ∧ CoinsOwn wr w.heap.size v cs ∧ DBigs wr cs ∧ Ext w wr) (fun _ i _ => n - (intOf i).toNat)
  case atStart => exact ⟨0, [], Nat.zero_le _, rfl, rfl, rfl, CoinsOwn.nil _ _, (fun _ h => by cases h), Ext.refl _⟩
  case round =>
    obtain ⟨k, cs, hk, rfl, hcl, hcv, hown, hdb, hE⟩ := hrel
    have HC := Lib.hid hcl; have HV := Lib.hid hcv; have HO := Lib.hid hown; have HDB := Lib.hid hdb; have HE := Lib.hid hE
    clear hcl hcv hown hdb hE
    by_cases hlt : k < n
    · have hkl : k < l.length := by rw [HL.out]; exact hlt
      obtain ⟨s, hs⟩ : ∃ s, s = l[k].1 := ⟨_, rfl⟩
      obtain ⟨z, hzz⟩ : ∃ z, z = l[k].2 := ⟨_, rfl⟩
      obtain ⟨g, o, hA, hc⟩ := HP.out (by intro e; have := congrArg List.length e; simp at this; rw [this] at hkl; simp at hkl)
      subst hA
      have hck := hc k (by simpa using hkl)
      have cs0 : wr.cell? ⟨g, o + k * 2, none⟩ = some (.string s) := HE.out.cell' (by rw [hck.1, hs]; simp [plain])
      have cs1 : wr.cell? ⟨g, o + k * 2 + 1, none⟩ = some (.int .i64 z) := HE.out.cell' (by rw [hck.2, hzz]; simp [plain])
      have HS := Lib.hid hs; have HZZ := Lib.hid hzz; clear hs hzz hck hc
      go_wp2_with (first | (go_at_call 99; refine (iCoinK s z _ (by rw [HZZ.out]; exact (HZ.out _ (List.getElem_mem _)).1) (by rw [HZZ.out]; exact (HZ.out _ (List.getElem_mem _)).2)).mono ?_; rintro e w1 ⟨b, rfl, hB, hE1⟩; have HB := Lib.hid hB; have HE1 := Lib.hid ((ext1 _ _).trans' hE1); clear hB hE1) | (at_builtin; refine wpList_append_own_at _ rfl (.tmp 12) (.tmp 15) 93 rfl w.heap.size 139 i0 _ 2 24 Tryz.underlying93 hi hz0 hz1 hz2 rfl (by decide) u3 cs.length (flat2 (cs.map Co.pair)) rfl (owns_ext (HO.out.ext HE1.out).1 (ext1 _ _)) ⟨w1.heap.size, 0, none⟩ 1 1 [.string s, .pointer (some ⟨b, 0, none⟩)] rfl rfl (cell_two_new _ _ _ _) (two_one _ _ rfl rfl) (by rw [HC.out]; unfold maxLen; omega) (by rw [HC.out]; omega) (by have := HE.out.size; have := HE1.out.size; simp; omega) ?_; intro v' w2 hown hgrow _ _; have R := Lib.hid (coins_push ((HO.out.ext HE1.out).ext (ext1 _ (coinBox s b))) (HB.out.at_.ext (ext1 _ _)) ((HE.out.trans' HE1.out).trans' (ext1 _ _)) hown hgrow); have RD := Lib.hid (dbigs_push (s := s) (HO.out.ext (HE1.out.trans' (ext1 _ (coinBox s b)))) ((HDB.out.ext HE1.out).ext (ext1 _ _)) (HB.out.ext (ext1 _ _)) hgrow); clear hown hgrow))
      go_roundw
      case rel =>
        refine ⟨k + 1, cs ++ [⟨s, b, z⟩], by omega, by go_num, by simp [HC.out], ?_, R.out.1, RD.out, R.out.2⟩
        rw [List.map_append, HV.out, List.take_succ_eq_append_getElem hkl, HS.out, HZZ.out]; rfl
      case measure => simp [intOf]; omega
    · obtain rfl : k = n := by omega
      go_wp2
      go_ret
      exact ⟨_, cs, rfl, by rw [HV.out, List.take_of_length_le (by rw [HL.out]; exact Nat.le_refl _)], HO.out, HDB.out, HE.out⟩
end Go.Proofs.YtfocejhcdcnnhaaGreatDoor

namespace Go.Proofs.YtfocejhcdcnnhaaGreatDoor
open Go Go.RowKit

/-- A set of coins handed back: sorted, without those of nothing. -/
def RetNewC (l : List Co) (w : World) (e : Ending) (w' : World) : Prop :=
  ∃ v L, e = .returned v ∧ CoinsOwn w' w.heap.size v L ∧ L.Perm (nz l) ∧ (L.Pairwise fun a b => le (Co.s a) (Co.s b)) ∧ isB (L.map Co.val) = true ∧ Ext w w'
set_option maxRecDepth 100000 in
set_option maxHeartbeats 1000000 in
theorem tNewCoinsG (A : Option Addr) (n c : Nat) (l : List Co) (w : World) (hl : l.length = n) (hn : n ≤ 12) (h : CoinsAt w A l) (hsz : ∀ x ∈ l, x.s.size ≤ 9223372036854775807)
    (hb : ∀ L : List Co, L.Perm (nz l) → (L.Pairwise fun a b => le (Co.s a) (Co.s b)) → isB (L.map Co.val) = true) :
    Calls Tryz.prog 100 #[.slice A n c] w (RetNewC l w) := by
  have H1 := Lib.hid (tSanitize A n c l w hl hn h)
  have HL := Lib.hid (show (nz l).length ≤ 12 by have : (nz l).length ≤ l.length := List.length_filter_le _ _; omega)
  have HSZ := Lib.hid hsz; have HB := Lib.hid hb
  clear hl h hsz hb
  go_enter Tryz.func100, Tryz.ntmps100
  go_wp2_with (fail)
  go_at_call 97
  refine H1.out.mono ?_
  rintro e w1 ⟨v, L, rfl, hown, hp, hs, hE⟩
  have HBL := Lib.hid (HB.out L hp hs)
  obtain ⟨A1, c1, rfl, hc1, hc2⟩ := own_cap2 hown.1
  have HO := Lib.hid hown; have HE := Lib.hid hE; have HC := Lib.hid (And.intro hc1 hc2); have HPS := Lib.hid (And.intro hp hs)
  have HLL := Lib.hid (show L.length ≤ 12 by rw [hp.length_eq]; exact HL.out)
  clear hown hE hp hs hc1 hc2
  go_wp2_with (fail)
  go_at_call 98
  refine (tValidate A1 L.length c1 L _ rfl (by have := HLL.out; omega) HC.out.1 HC.out.2 (own_at HO.out).1 (fun x hx => HSZ.out x (List.mem_filter.1 (HPS.out.1.mem_iff.1 hx)).1)).mono ?_
  rintro e w2 ⟨o, ho, hr⟩
  obtain rfl := errIs_unique (isB_err.2 HBL.out) ho
  obtain ⟨rfl, hE⟩ := hr
  have HE2 := Lib.hid hE; clear hE ho
  go_wp2
  go_ret
  exact ⟨_, L, rfl, HO.out.ext HE2.out, HPS.out.1, HPS.out.2, HBL.out, HE.out.trans' HE2.out⟩

set_option maxRecDepth 100000 in
set_option maxHeartbeats 1000000 in
theorem tdFromCoin (s : ByteArray) (b : Nat) (z : Int) (w : World) (h : BigK w b z) (hs : denomB s = true) (hz : 0 ≤ z) (hsz : s.size ≤ 9223372036854775807) (kz : Small z) (hT : Thr w) :
    Calls Tryz.prog 101 #[coinV s b] w (RetDC s (z * T18) w) := by
  have k1 := Lib.hid ((blk_new0 w 139 [.string s, .pointer (some ⟨b, 0, none⟩)]).alloc (.cells #[.string ByteArray.empty, .pointer none] 106))
  have k2 := Lib.hid (blk_new1 w (coinBox s b) 106 [.string ByteArray.empty, .pointer none])
  have E2 := Lib.hid (ext2 w (coinBox s b) (.cells #[.string ByteArray.empty, .pointer none] 106))
  have HC := Lib.hid (tCoinOk s b z _ (h.at_.ext E2.out) hs hz hsz)
  have HD := Lib.hid (fun (W : World) (e : Ext w W) => dFromInt b z W (h.ext e) kz (hT.ext e))
  obtain ⟨y, hy⟩ : ∃ y, y = z * T18 := ⟨_, rfl⟩
  rw [← hy] at HD ⊢
  clear h hz hsz hs hT kz hy
  go_enter Tryz.func101, Tryz.ntmps101
  go_wp2_with (fail)
  go_at_call 133
  refine HC.out.mono ?_
  rintro e w0 ⟨rfl, hE⟩
  have K1 := Lib.hid (k1.out.ext hE); have K2 := Lib.hid (k2.out.ext hE); have E0 := Lib.hid (E2.out.trans' hE)
  have a0 : w0.cell? ⟨w.heap.size, 0, none⟩ = some (.string s) := (K1.out.cell 0).trans rfl
  have a1 : w0.cell? ⟨w.heap.size, 1, none⟩ = some (.pointer (some ⟨b, 0, none⟩)) := (K1.out.cell 1).trans rfl
  have la := cell_lt a0
  clear hE k1 k2 HC
  go_wp2
  go_region_law (first | (go_simp; go_at_call 134; refine (HD.out _ (Below.drew E0.out)).mono ?_; rintro e w1 ⟨r, rfl, hB, hE⟩; have hE' := Ext.undrew hE; have HB := Lib.hid (show BigF w w1 r y from hB.old (Below.drew E0.out)); have HE := Lib.hid (E0.out.trans' hE'); have kk := K2.out.ext hE'; have s0 : w1.cell? ⟨w.heap.size, 0, none⟩ = some (.string s) := ((K1.out.ext hE').cell 0).trans rfl; have d0 : w1.cell? ⟨w.heap.size + 1, 0, none⟩ = some (.string ByteArray.empty) := (kk.cell 0).trans rfl; have d1 : w1.cell? ⟨w.heap.size + 1, 1, none⟩ = some (.pointer none) := (kk.cell 1).trans rfl; have f0 := kk.frozen 0; have f1 := kk.frozen 1; have KK := Lib.hid kk; clear hE hE' hB kk))
  all_goals go_wp2
  all_goals exact bodyPost_ret (v := dcV s r) (by simp [results, Tryz.results101, go_sem, d0, d1]) rfl ⟨r, rfl, dtwo_done HE.out (by omega) KK.out HB.out _ _⟩
end Go.Proofs.YtfocejhcdcnnhaaGreatDoor

namespace Go.Proofs.YtfocejhcdcnnhaaGreatDoor
open Go Go.RowKit

/-- A whole amount as a decimal. -/
def whole (x : ByteArray × Int) : ByteArray × Int := (x.1, x.2 * T18)
/-- Decimal coins out of whole ones handed back. -/
def RetDFrom (l : List Co) (w : World) (e : Ending) (w' : World) : Prop :=
  ∃ (v : Value) (cs L : List Co), e = .returned v ∧ L.Perm (nz l) ∧ (L.Pairwise fun a b => le (Co.s a) (Co.s b)) ∧ cs.map Co.val = (L.map Co.val).map whole ∧ DCoinsOwn w' w.heap.size v cs ∧ Ext w w'
theorem isB_pos {l : List (ByteArray × Int)} (h : isB l = true) : (∀ x ∈ l, denomB x.1 = true ∧ 0 < x.2) ∧ AscP l := by
  unfold isB at h; rw [decide_eq_true_iff] at h; exact h
theorem DBigs.perm {w : World} {l L : List Co} (h : DBigs w l) (hp : ∀ x ∈ L, x ∈ l) : DBigs w L := fun x hx => h x (hp x hx)
/-- A row stays where one of records of another type grows. -/
theorem row_grown {w w' : World} {b1 b2 n1 n2 k1 k2 : Nat} {E1 E2 : TypeId} {v1 v2 : Value} {xs1 xs2 : List Value} (h : w.ownsRow b1 E1 k1 v1 n1 xs1) (ho : w.ownsRow b2 E2 k2 v2 n2 xs2) (hg : w.grownBy w' v2.ownBlock) (hne : E1 ≠ E2) : w'.ownsRow b1 E1 k1 v1 n1 xs1 := by
  refine ⟨h.1, ?_⟩
  rcases h.2 with h2 | ⟨g, cap, cur, hv, hb, hh, hr⟩
  · exact Or.inl h2
  · refine Or.inr ⟨g, cap, cur, hv, hb, (hg.block g (Array.getElem?_eq_some_iff.1 hh).1 fun e => ?_).trans hh, hr⟩
    rcases ho.2 with ⟨rfl, _⟩ | ⟨g2, cap2, cur2, rfl, _, hh2, _⟩
    · cases e
    · injection e with e
      subst e
      rw [hh] at hh2
      injection hh2 with hh2
      injection hh2 with _ hh2
      exact hne hh2
set_option maxRecDepth 100000 in
set_option maxHeartbeats 2000000 in
theorem tdFromCoins (A : Option Addr) (n c : Nat) (l : List Co) (w : World) (hl : l.length = n) (hn : n ≤ 12) (h : CoinsAt w A l) (hd : DBigs w l) (hsz : ∀ x ∈ l, x.s.size ≤ 9223372036854775807) (hz : ∀ x ∈ l, Small x.z)
    (hb : ∀ L : List Co, L.Perm (nz l) → (L.Pairwise fun a b => le (Co.s a) (Co.s b)) → isB (L.map Co.val) = true) (hT : Thr w) :
    Calls Tryz.prog 61 #[.slice A n c] w (RetDFrom l w) := by
  obtain ⟨i0, hi, hz0, hz1, hz2⟩ := info_parts infoDCoin
  by_cases h0 : n = 0
  · subst h0
    have hnil : l = [] := List.length_eq_zero_iff.1 hl
    have HN := Lib.hid hnil
    clear hl h hd hsz hz hb hT hnil
    go_enter Tryz.func61, Tryz.ntmps61
    go_wp2
    go_ret
    refine ⟨_, [], [], rfl, by rw [HN.out]; exact List.Perm.refl _, List.Pairwise.nil, rfl, ⟨⟨rfl, Or.inr ⟨w.heap.size, 0, #[], rfl, Nat.le_refl _, heap_alloc_new _ _, Nat.le_refl _, Nat.zero_le _, rfl, rfl⟩⟩, fun _ h => by cases h⟩, Ext.alloc' _ _⟩
  · have e0 : ((n : Int) == 0) = false := by simp; omega
    have H1 := Lib.hid (fun (W : World) (e : Ext w W) => tNewCoinsG A n c l W hl hn (h.ext e) hsz hb)
    have HL := Lib.hid hl; have HD := Lib.hid hd; have HZ := Lib.hid hz; have HT := Lib.hid hT; have HSZ := Lib.hid hsz
    clear hl h hd hsz hz hb hT
    go_enter Tryz.func61, Tryz.ntmps61
    go_wp2_with (first | (at_make; refine wpList_make_own _ rfl _ _ 71 rfl w.heap.size 106 i0 _ 2 Tryz.underlying71 hi hz0 hz1 .i64 .i64 (n : Int) n rfl rfl rfl (by rw [hz2]; omega) (by unfold maxLen; omega) (Nat.le_refl _) ?_; intro w0 hown0 hg0; have HO0 := Lib.hid (show DCoinsOwn w0 w.heap.size _ [] from ⟨hown0, fun _ h => by cases h⟩); have HE0 := Lib.hid (dext_none hg0); clear hown0 hg0) | (go_at_call 100; refine (H1.out _ HE0.out).mono ?_; rintro e w5 ⟨v5, L, rfl, hown5, hp5, hs5, hb5, hE5⟩; obtain ⟨A5, c5, rfl⟩ := coins_shape hown5; obtain ⟨m, hm⟩ : ∃ m, m = L.length := ⟨_, rfl⟩; rw [← hm]; have HP := Lib.hid (show w5.ownsRow w0.heap.size 139 2 (.slice A5 m c5) m (flat2 (L.map Co.pair)) by have h9 := hown5.1; rw [← hm] at h9; exact h9); have HB := Lib.hid hb5; have HPS := Lib.hid (And.intro hp5 hs5); have HE5 := Lib.hid (HE0.out.trans' hE5); have HO5 := Lib.hid (HO0.out.ext hE5); have HM := Lib.hid hm; clear hown5 hp5 hs5 hb5 hE5 hm))
    have HML := Lib.hid (show m ≤ 12 by rw [HM.out, HPS.out.1.length_eq]; have h1 : (nz l).length ≤ l.length := List.length_filter_le _ _; have := HL.out; omega)
    have hm12 : m ≤ 12 := HML.out
    have HMEM := Lib.hid (show ∀ x ∈ L, x ∈ l from fun x hx => (List.mem_filter.1 (HPS.out.1.mem_iff.1 hx)).1)
    go_loopw [3, 18] (fun v i wr => ∃ (k : Nat) (cs : List Co), k ≤ m ∧ i = .int .i64 k ∧ cs.length = k ∧ cs.map Co.val = ((L.map Co.val).take k).map whole ∧ DCoinsOwn wr w.heap.size v cs ∧ Ext w wr ∧ wr.ownsRow w0.heap.size 139 2 (.slice A5 m c5) m (flat2 (L.map Co.pair))) (fun _ i _ => m - (intOf i).toNat)
    case atStart => exact ⟨0, [], Nat.zero_le _, rfl, rfl, rfl, HO5.out, HE5.out, HP.out⟩
    case round =>
      obtain ⟨k, cs, hk, rfl, hcl, hcv, hown, hE, hE'⟩ := hrel
      have HC := Lib.hid hcl; have HV := Lib.hid hcv; have HO := Lib.hid hown; have HE := Lib.hid hE; have HF5 := Lib.hid hE'
      clear hcl hcv hown hE hE'
      by_cases hlt : k < m
      · have hkl : k < L.length := by rw [← HM.out]; exact hlt
        obtain ⟨s, hs⟩ : ∃ s, s = L[k].s := ⟨_, rfl⟩
        obtain ⟨b, hb⟩ : ∃ b, b = L[k].b := ⟨_, rfl⟩
        obtain ⟨z, hzz⟩ : ∃ z, z = L[k].z := ⟨_, rfl⟩
        obtain ⟨g, o, hA, hc⟩ := recAt_of_owns (by simp [HM.out]) HF5.out (by intro e; have := congrArg List.length e; simp at this; rw [this] at hkl; simp at hkl)
        subst hA
        have hck := hc k (by simpa using hkl)
        have cs0 : wr.cell? ⟨g, o + k * 2, none⟩ = some (.string s) := by rw [hck.1, hs]; simp [Co.pair]
        have cs1 : wr.cell? ⟨g, o + k * 2 + 1, none⟩ = some (.pointer (some ⟨b, 0, none⟩)) := by rw [hck.2, hb]; simp [Co.pair]
        have hml := HMEM.out _ (List.getElem_mem hkl)
        have HBK := Lib.hid (show BigK wr b z by rw [hb, hzz]; exact (HD.out _ hml).ext HE.out)
        have HX := Lib.hid (show (L.map Co.val)[k]'(by simpa using hkl) = (s, z) by simp [Co.val, hs, hzz])
        have hbk := (isB_pos HB.out).1 (s, z) (by rw [← HX.out]; exact List.getElem_mem _)
        have HFC := Lib.hid (fun (W : World) (e : Ext wr W) => tdFromCoin s b z W (HBK.out.ext e) hbk.1 (Int.le_of_lt hbk.2) (by rw [hs]; exact HSZ.out _ hml) (by rw [hzz]; exact HZ.out _ hml) (HT.out.ext (HE.out.trans' e)))
        clear hs hb hzz hck hc hml hbk
        go_wp2_with (first | (go_at_call 101; refine (HFC.out _ (Ext.alloc' _ _)).mono ?_; rintro e w1 ⟨r, rfl, hB1, hE1⟩; have HB1 := Lib.hid hB1.k; have HE1 := Lib.hid ((Ext.alloc' wr (coinBox s b)).trans' hE1); clear hB1 hE1) | (at_builtin; refine wpList_append_own_at _ rfl (.tmp 22) (.tmp 25) 71 rfl w.heap.size 106 i0 _ 2 24 Tryz.underlying71 hi hz0 hz1 hz2 rfl (by decide) u3 cs.length (flat2 (cs.map Co.pair)) rfl (owns_ext (HO.out.ext HE1.out).1 (ext1 _ _)) ⟨w1.heap.size, 0, none⟩ 1 1 [.string s, .pointer (some ⟨r, 0, none⟩)] rfl rfl (cell_two_new _ _ _ _) (two_one _ _ rfl rfl) (by have := HC.out; have := HML.out; unfold maxLen; omega) (by have := HC.out; have := HML.out; omega) (by have := HE.out.size; have := HE1.out.size; simp; omega) ?_; intro v' w2 hown hgrow _ _; have R := Lib.hid (dcoins_push ((HO.out.ext HE1.out).ext (ext1 _ _)) (HB1.out.ext (ext1 _ _)) ((HE.out.trans' HE1.out).trans' (ext1 _ _)) hown hgrow); have R5 := Lib.hid (row_grown (owns_ext (owns_ext HF5.out HE1.out) (ext1 _ (dcBox s r))) (owns_ext (owns_ext HO.out.1 HE1.out) (ext1 _ (dcBox s r))) hgrow (by decide)); clear hown hgrow))
        go_roundw
        case rel => exact ⟨k + 1, cs ++ [⟨s, r, z * T18⟩], by omega, by go_num, by simp [HC.out], by rw [List.map_append, HV.out, List.take_succ_eq_append_getElem (by simpa using hkl), HX.out, List.map_append]; rfl, R.out.1, R.out.2, R5.out⟩
        case measure => simp [intOf]; omega
      · obtain rfl : k = m := by omega
        go_wp2
        go_ret
        exact ⟨_, cs, L, rfl, HPS.out.1, HPS.out.2, by rw [HV.out, List.take_of_length_le (by simp [HM.out])], HO.out, HE.out⟩
end Go.Proofs.YtfocejhcdcnnhaaGreatDoor

namespace Go.Proofs.YtfocejhcdcnnhaaGreatDoor
open Go Go.RowKit

theorem nz_vnz (L : List Co) : (nz L).map Co.val = vnz (L.map Co.val) := by
  unfold nz vnz
  rw [List.filter_map]; rfl
/-- What DecFrom hands back. -/
def RetFrom (l : List (ByteArray × Int)) (w : World) (e : Ending) (w' : World) : Prop :=
  ∃ x : List (ByteArray × Int), x.Perm (vnz l) ∧ (x.Pairwise fun a b => le a.1 b.1) ∧ ((isB x = true ∧ ∃ v, e = .returned (.tuple #[v, .bool true]) ∧ DPlainOwn w' w.heap.size v ((x.map whole).map dback)) ∨ (isB x = false ∧ ∃ v, e = .returned (.tuple #[v, .bool false]))) ∧ Ext w w'
theorem whole_fit {z : Int} (h0 : 0 < z) (h1 : z ≤ 9223372036854775807) : FitT (z * T18) := by
  unfold FitT T18; omega
theorem small_max {z : Int} (h0 : -9223372036854775808 ≤ z) (h1 : z ≤ 9223372036854775807) : Small z := small_m z (by unfold B64; omega)
theorem isB_not {l : List (ByteArray × Int)} {t : ByteArray} (h : ErrIs l (some t)) : isB l = false := by
  cases hb : isB l
  · rfl
  · have := errIs_unique (isB_err.2 hb) h
    cases this
set_option maxRecDepth 100000 in
set_option maxHeartbeats 2000000 in
theorem iDecFrom (A : Option Addr) (n c : Nat) (l : List (ByteArray × Int)) (w : World) (hl : l.length = n) (hn : n ≤ 12) (hA : PlainAt w A l) (hz : ∀ x ∈ l, -9223372036854775808 ≤ x.2 ∧ x.2 ≤ 9223372036854775807) (hsz : ∀ x ∈ l, x.1.size ≤ maxLen) (hT : Thr w) :
    Calls Tryz.prog 28 #[.slice A n c] w (RetFrom l w) := by
  have H1 := Lib.hid (fun (W : World) (e : Ext w W) => iCoinsK A n c l W hl (by omega) (hA.ext e) hz)
  have HL := Lib.hid hl; have HSZ := Lib.hid hsz; have HZ := Lib.hid hz; have HT := Lib.hid hT
  clear hl hA hsz hT hz
  go_enter Tryz.func28, Tryz.ntmps28
  go_wp2_with (fail)
  go_at_call 60
  refine (H1.out _ (Ext.refl _)).mono ?_
  rintro e w1 ⟨v1, ca, rfl, va, oa, da, hE1⟩
  obtain ⟨A1, c1, rfl⟩ := coins_shape oa
  have hlen : ca.length ≤ 12 := by have h9 := congrArg List.length va; rw [List.length_map] at h9; have := HL.out; omega
  have H2 := Lib.hid (tMakeCoins A1 ca.length c1 ca w1 rfl hlen (own_at oa).1 (fun x hx => by
    have h1 : x.val ∈ l := by rw [← va]; exact List.mem_map_of_mem hx
    have h2 := HSZ.out _ h1
    exact Nat.le_trans h2 (by decide)))
  have VA := Lib.hid va; have HE1 := Lib.hid hE1
  clear va oa da hE1 hlen
  go_wp2_with (fail)
  go_at_call 59
  refine H2.out.mono ?_
  rintro e w2 ⟨L, hp, hw, hE2, hcase⟩
  have HE2 := Lib.hid (HE1.out.trans' hE2)
  have HP := Lib.hid (show (L.map Co.val).Perm (vnz l) by rw [← VA.out, ← nz_vnz]; exact hp.map _)
  have HW := Lib.hid (show (L.map Co.val).Pairwise fun a b => le a.1 b.1 from List.pairwise_map.2 hw)
  clear hp hw hE2 H2
  rcases hcase with ⟨ho, v2, rfl, -⟩ | ⟨⟨t, ht⟩, b, rfl⟩
  · have HB := Lib.hid (isB_err.1 ho)
    clear ho
    go_wp2_with (fail)
    go_at_call 60
    refine (H1.out _ HE2.out).mono ?_
    rintro e w3 ⟨v3, cb, rfl, vb, ob, db, hE3⟩
    obtain ⟨A3, c3, rfl⟩ := coins_shape ob
    have hlen : cb.length ≤ 12 := by have h9 := congrArg List.length vb; rw [List.length_map] at h9; have := HL.out; omega
    have HSET := Lib.hid (show ∀ M : List Co, M.Perm (nz cb) → (M.Pairwise fun a b => le (Co.s a) (Co.s b)) → M.map Co.val = L.map Co.val from fun M hM hMw =>
      sorted_is (((hM.map _).trans (by rw [nz_vnz, vb])).trans HP.out.symm) (List.pairwise_map.2 hMw) (isB_pos HB.out).2)
    have H3 := Lib.hid (tdFromCoins A3 cb.length c3 cb w3 rfl hlen (own_at ob).1 db (fun x hx => by
      have h1 : x.val ∈ l := by rw [← vb]; exact List.mem_map_of_mem hx
      exact Nat.le_trans (HSZ.out _ h1) (by decide)) (fun x hx => by
      have h1 : x.val ∈ l := by rw [← vb]; exact List.mem_map_of_mem hx
      have h2 := HZ.out _ h1
      exact small_max h2.1 h2.2) (fun M hM hMw => by rw [HSET.out M hM hMw]; exact HB.out) (HT.out.ext (HE2.out.trans' hE3)))
    have HE3 := Lib.hid (HE2.out.trans' hE3)
    clear vb ob db hE3 hlen
    go_wp2_with (fail)
    go_at_call 61
    refine H3.out.mono ?_
    rintro e w4 ⟨v4, cs, M, rfl, hM, hMw, hcv, hown, hE4⟩
    obtain ⟨A4, c4, rfl, hc4⟩ := down_cap hown.1
    have HV := Lib.hid (show cs.map Co.val = (L.map Co.val).map whole by rw [hcv, HSET.out M hM hMw])
    have HLL := Lib.hid (show cs.length ≤ 12 by
      have h1 := congrArg List.length HV.out
      rw [List.length_map, List.length_map] at h1
      have h2 := HP.out.length_eq
      have h3 : (vnz l).length ≤ l.length := List.length_filter_le _ _
      have := HL.out; omega)
    have HB4 := Lib.hid (iBackDecs A4 cs.length c4 cs w4 rfl (by have := HLL.out; omega) (dcoinsAt_own hown rfl) (fun x hx => by
      have h1 : x.val ∈ (L.map Co.val).map whole := by rw [← HV.out]; exact List.mem_map_of_mem hx
      obtain ⟨y, hy, e⟩ := List.mem_map.1 h1
      have h2 := ((isB_pos HB.out).1 y hy).2
      have h3 := HZ.out y (vnz_mem (HP.out.mem_iff.1 hy)).1
      have h4 : x.z = y.2 * T18 := (congrArg Prod.snd e).symm
      rw [h4]; exact whole_fit h2 h3.2))
    rw [show (cs.map fun x => dback x.val) = ((L.map Co.val).map whole).map dback by rw [← HV.out, List.map_map]; rfl] at HB4
    have HE4 := Lib.hid (HE3.out.trans' hE4)
    clear hM hMw hcv hown hE4 hc4
    go_wp2_with (fail)
    go_at_call 41
    refine HB4.out.mono ?_
    rintro e w5 ⟨v5, rfl, hown, hE5⟩
    have HO := Lib.hid hown; have HE5 := Lib.hid (HE4.out.trans' hE5)
    clear hown hE5
    go_wp2
    go_ret2
    exact ⟨_, HP.out, HW.out, Or.inl ⟨HB.out, v5, rfl, HO.out.low HE4.out.size⟩, HE5.out⟩
  · have HB := Lib.hid (isB_not ht)
    clear ht
    go_wp2
    go_ret2
    exact ⟨_, HP.out, HW.out, Or.inr ⟨HB.out, _, rfl⟩, HE2.out⟩
end Go.Proofs.YtfocejhcdcnnhaaGreatDoor

namespace Go.Proofs.YtfocejhcdcnnhaaGreatDoor
open Go Go.RowKit

set_option maxRecDepth 100000 in
theorem zFits6 (s : ByteArray) (z : Int) (w : World) : Calls Tryz.prog 58 #[.agg #[.string s, .int .i64 z]] w (RetE (.bool (decide (s.size ≤ 2147483647))) w) := by
  by_cases h1 : 2147483647 < s.size
  · have d1 : decide (2147483647 < s.size) = true := by simpa using h1
    have F := Lib.hid (show decide (s.size ≤ 2147483647) = false by simp; omega)
    go_enter Tryz.func58, Tryz.ntmps58
    go_wp2
    go_ret
    rw [F.out]; exact ⟨rfl, ext1 _ _⟩
  · have d1 : decide (2147483647 < s.size) = false := by simpa using h1
    have F := Lib.hid (show decide (s.size ≤ 2147483647) = true by simp; omega)
    go_enter Tryz.func58, Tryz.ntmps58
    go_wp2
    go_ret
    rw [F.out]; exact ⟨rfl, ext1 _ _⟩

/-- What zzFits5 tells. -/
def FitsC (n : Nat) (l : List (ByteArray × Int)) : Prop := n ≤ 2147483647 ∧ ∀ x ∈ l, x.1.size ≤ 2147483647

set_option maxRecDepth 100000 in
set_option maxHeartbeats 1000000 in
theorem zFits5 (A : Option Addr) (n c : Nat) (l : List (ByteArray × Int)) (w : World) (hl : l.length = n) (hn : n ≤ 9223372036854775807) (h : PlainAt w A l) :
    Calls Tryz.prog 27 #[.slice A n c] w (RetIfD (FitsC n l) w) := by
  have HL := Lib.hid hl; have HP := Lib.hid h
  clear hl h
  by_cases h1 : 2147483647 < n
  · have d1 : decide ((2147483647 : Int) < (n : Int)) = true := by simp; omega
    go_enter Tryz.func27, Tryz.ntmps27
    go_wp2
    go_ret
    exact ⟨false, rfl, (fun h => by cases h), Ext.refl _⟩
  · have d1 : decide ((2147483647 : Int) < (n : Int)) = false := by simp; omega
    go_enter Tryz.func27, Tryz.ntmps27
    go_wp2
    go_loopw [10] (fun i wr => ∃ k : Nat, k ≤ n ∧ i = .int .i64 k ∧ (∀ x ∈ l.take k, x.1.size ≤ 2147483647) ∧ Ext w wr) (fun i _ => n - (intOf i).toNat)
    case atStart => exact ⟨0, Nat.zero_le _, rfl, (fun x hx => by simp at hx), Ext.refl _⟩
    case round =>
      obtain ⟨k, hk, rfl, hq, hE⟩ := hrel
      have HQ := Lib.hid hq; have HE := Lib.hid hE
      clear hq hE
      by_cases hlt : k < n
      · have hkl : k < l.length := by rw [HL.out]; exact hlt
        obtain ⟨s, hs⟩ : ∃ s, s = l[k].1 := ⟨_, rfl⟩
        obtain ⟨z, hzz⟩ : ∃ z, z = l[k].2 := ⟨_, rfl⟩
        obtain ⟨g, o, hA, hc⟩ := HP.out (by intro e; have := congrArg List.length e; simp at this; rw [this] at hkl; simp at hkl)
        subst hA
        have hck := hc k (by simpa using hkl)
        have cs0 : wr.cell? ⟨g, o + k * 2, none⟩ = some (.string s) := HE.out.cell' (by rw [hck.1, hs]; simp [plain])
        have cs1 : wr.cell? ⟨g, o + k * 2 + 1, none⟩ = some (.int .i64 z) := HE.out.cell' (by rw [hck.2, hzz]; simp [plain])
        have HS := Lib.hid hs; clear hs hzz hck hc
        obtain ⟨r, hr⟩ : ∃ r, r = decide (s.size ≤ 2147483647) := ⟨_, rfl⟩
        have HF := Lib.hid (fun W : World => zFits6 s z W)
        rw [← hr] at HF
        have HR := Lib.hid hr; clear hr
        cases r
        · go_wp2_with (first | (go_at_call 58; (with_reducible refine (HF.out _).mono ?_); rintro e w1 ⟨rfl, hE1⟩; have HE1 := Lib.hid ((ext1 _ _).trans' hE1); clear hE1))
          go_ret
          exact ⟨false, rfl, (fun h => by cases h), HE.out.trans' HE1.out⟩
        · go_wp2_with (first | (go_at_call 58; (with_reducible refine (HF.out _).mono ?_); rintro e w1 ⟨rfl, hE1⟩; have HE1 := Lib.hid ((ext1 _ _).trans' hE1); clear hE1))
          go_roundw
          case rel =>
            refine ⟨k + 1, by omega, by go_num, fun x hx => ?_, HE.out.trans' HE1.out⟩
            rw [List.take_succ_eq_append_getElem hkl, List.mem_append, List.mem_singleton] at hx
            rcases hx with hx | rfl
            · exact HQ.out x hx
            · rw [← HS.out]; simpa using HR.out.symm
          case measure => simp [intOf]; omega
      · obtain rfl : k = n := by omega
        go_wp2
        go_ret
        exact ⟨true, rfl, (fun _ => ⟨by omega, fun x hx => HQ.out x (by rw [List.take_of_length_le (by rw [HL.out]; exact Nat.le_refl _)]; exact hx)⟩), HE.out⟩

theorem sOfI (x : Int) (w : World) (h0 : -9223372036854775808 ≤ x) (h1 : x ≤ 9223372036854775807) : Calls Tryz.prog 19 #[.int .i64 x, .int .i64 0] w (RetE (de (x * T18)) w) := by
  have h := sOfW x 0 w h0 h1 (by omega) (by omega)
  rwa [show decV x 0 = x * T18 by unfold decV; omega] at h
theorem plain_oneF (l : List (ByteArray × Int)) : ∀ u ∈ flat2 (l.map plain), u.oneCell' = true := by
  intro u hu
  obtain ⟨p, hp, hu⟩ := List.mem_flatMap.1 hu
  obtain ⟨x, _, rfl⟩ := List.mem_map.1 hp
  simp [plain] at hu
  rcases hu with rfl | rfl <;> rfl
theorem flat2_allF {Q : Nat → Value → Prop} (ps : List (Value × Value)) (h : ∀ j (hj : j < ps.length), Q (j * 2) ps[j].1 ∧ Q (j * 2 + 1) ps[j].2) : ∀ i u, (flat2 ps)[i]? = some u → Q i u := by
  intro i u hu
  have hi : i < (flat2 ps).length := (List.getElem?_eq_some_iff.1 hu).1
  rw [flat2_length] at hi
  have hj : i / 2 < ps.length := by omega
  obtain ⟨h1, h2⟩ := flat2_get ps (i / 2) hj
  obtain ⟨q1, q2⟩ := h (i / 2) hj
  rcases (by omega : i / 2 * 2 = i ∨ i / 2 * 2 + 1 = i) with e | e
  · rw [e] at h1 q1
    rw [h1] at hu; injection hu with hu; rw [← hu]; exact q1
  · rw [e] at h2 q2
    rw [h2] at hu; injection hu with hu; rw [← hu]; exact q2
end Go.Proofs.YtfocejhcdcnnhaaGreatDoor
