/-
  The decimal of a whole number: calcPrecisionMultiplier at 0, LegacyNewDecFromInt; NewInt with the words' own block known, for all int64.
  Division by 10^18 into any receiver, in place too: divWVW, divW, div; big.Int's Quo in place.
  TruncateInt of a decimal.
-/
import Derived.Test.YtcoffndnfaemoaaGreatDoorGP
import Derived.Test.YtcoffndnfaemoaaGreatDoorGB
import Derived.Test.YtcoffndnfaemoaaGreatDoorGX
import Derived.Test.YtcoffndnfaemoaaGreatDoorGR
namespace Go.Proofs.YtcoffndnfaemoaaGreatDoor
open Go Go.RowKit

set_option maxRecDepth 100000 in
theorem dCalc0 (w : World) (hT : Thr w) : Calls Tryz.prog 175 #[.int .i64 0] w (RetPK T18 w) := by
  have HB := Lib.hid (new0 w)
  have E0 := Lib.hid (Ext.alloc' w (.cells #[.bool false, .slice none 0 0] 126))
  have HT := Lib.hid hT; clear hT
  go_enter Tryz.func175, Tryz.ntmps175
  go_wp2_with (fail)
  go_at_call 226
  refine (dTen _).mono ?_
  rintro e w1 ⟨p1, rfl, h1, x1⟩
  have E1 := Lib.hid x1; have H1 := Lib.hid h1; clear x1 h1
  go_wp2_with (fail)
  go_at_call 86
  refine (kNew 18 w1 (by omega) (by omega)).mono ?_
  rintro e w2 ⟨p2, rfl, h2, x2⟩
  have hE := E1.out.trans' x2
  have n1 : p1 ≠ w.heap.size := by have := H1.out.1; have := E0.out.size; simp at *; omega
  have n2 : p2 ≠ w.heap.size := by have := h2.1; have := E1.out.size; simp at *; omega
  have HX := Lib.hid (vExpo w.heap.size p1 p2 10 18 4 2 w2 (HB.out.ext hE) (H1.out.k.ext x2) h2.k n1 n2 (by unfold B64; omega) (by unfold B64; omega) (by omega) (by omega) rfl (by omega) (by omega) (by omega) bl18 p18 (HT.out.ext (E0.out.trans' hE)))
  have HE := Lib.hid (E0.out.trans' hE)
  clear hE h2 x2 n1 n2
  go_wp2_with (fail)
  go_at_call 225
  refine HX.out.mono ?_
  rintro e w3 h3
  obtain ⟨b, rfl, hf, hx⟩ := h3.fin HE.out (Nat.le_refl _)
  have HF := Lib.hid hf; have HX3 := Lib.hid hx
  clear h3 hf hx
  go_wp2
  go_ret
  exact ⟨b, rfl, HF.out, HX3.out⟩
set_option maxRecDepth 100000 in
theorem dPM0 (w : World) (hT : Thr w) : Calls Tryz.prog 132 #[.int .i64 0] w (RetPK T18 w) := by
  have HT := Lib.hid hT; clear hT
  go_enter Tryz.func132, Tryz.ntmps132
  go_wp2_with (go_at_call 175; refine (dCalc0 _ HT.out).mono ?_; rintro e w1 ⟨p1, rfl, hr⟩; have HR := Lib.hid hr; clear hr)
  go_ret
  exact ⟨_, rfl, HR.out⟩
set_option maxRecDepth 100000 in
theorem mBigMut (b : Nat) (z : Int) (w : World) (h : BigK w b z) : Calls Tryz.prog 271 #[.agg #[.pointer (some ⟨b, 0, none⟩)]] w (RetE (.pointer (some ⟨b, 0, none⟩)) w) := by
  have HB := Lib.hid (h.at_.ext (ext1 w (intBox b))); clear h
  have kb := Lib.hid (blk_new0 w 102 [.pointer (some ⟨b, 0, none⟩)])
  go_enter Tryz.func271, Tryz.ntmps271
  go_wp2_with (go_at_call 117; refine (mIsNil b z _ (by exact HB.out)).mono ?_; rintro e w1 ⟨rfl, hE⟩; have HE1 := Lib.hid hE; clear hE; have p1 : w1.cell? ⟨w.heap.size, 0, none⟩ = some (.pointer (some ⟨b, 0, none⟩)) := ((kb.out.ext HE1.out).cell 0).trans rfl)
  go_ret
  exact ⟨rfl, (ext1 _ _).trans' HE1.out⟩

theorem smallT : Small T18 := smallU.2.2.2.1
set_option maxRecDepth 100000 in
theorem dFromIntP (x : Nat) (z : Int) (w : World) (hx : BigK w x z) (kz : Small z) (hT : Thr w) : Calls Tryz.prog 234 #[.agg #[.pointer (some ⟨x, 0, none⟩)], .int .i64 0] w (RetDK (z * T18) w) := by
  have e3 := ext3 w (intBox x) (.cells #[.pointer none] 84) (.cells #[.bool false, .slice none 0 0] 126)
  have hbi := ((Blk.new w 102 [.pointer (some ⟨x, 0, none⟩)]).alloc (.cells #[.pointer none] 84)).alloc (.cells #[.bool false, .slice none 0 0] 126)
  have hbr := (blk_new1 w (intBox x) 84 [.pointer none]).alloc (.cells #[.bool false, .slice none 0 0] 126)
  have hbb := blk_new2 w (intBox x) (.cells #[.pointer none] 84) 126 [.bool false, .slice none 0 0]
  have E3 := Lib.hid e3; have HI := Lib.hid hbi; have HR := Lib.hid hbr; have HB := Lib.hid hbb; have HX := Lib.hid hx; have HT := Lib.hid hT
  have hxl := hx.lt
  clear e3 hbi hbr hbb hx hT
  go_enter Tryz.func234, Tryz.ntmps234
  go_wp2_with (fail)
  go_at_call 271
  refine (mBigMut x z _ (HX.out.ext E3.out)).mono ?_
  rintro e w0 ⟨rfl, x0⟩
  have E0 := Lib.hid (E3.out.trans' x0); have X0 := Lib.hid x0; clear x0
  go_wp2_with (fail)
  go_at_call 132
  refine (dPM0 _ (HT.out.ext E0.out)).mono ?_
  rintro e w1 ⟨p1, rfl, h1, x1⟩
  have hE := E0.out.trans' x1
  have n1 : x ≠ p1 := by have := h1.1; have := E0.out.size; omega
  have HM := Lib.hid (nMul (w.heap.size + 2) x p1 z T18 w1 (HB.out.ext (X0.out.trans' x1)) (HX.out.ext hE) h1.k kz smallT n1 (HT.out.ext hE))
  have HE := Lib.hid hE; have HR1 := Lib.hid (HR.out.ext (X0.out.trans' x1))
  clear hE n1 x1 h1
  go_wp2_with (fail)
  go_at_call 85
  refine HM.out.mono ?_
  rintro e w2 h2
  obtain ⟨rfl, hf, ho⟩ := h2.bf HE.out (by omega)
  have hk := ho.block' HR1.out (by omega)
  have c0 : w2.cell? ⟨w.heap.size + 1, 0, none⟩ = some (.pointer none) := (hk.cell 0).trans rfl
  have fz := hk.frozen 0
  have HF := Lib.hid (fun v => dec_fin (v := v) HE.out hf ho (by omega) (by omega) hk)
  clear h2 hf ho hk
  go_wp2
  exact bodyPost_ret (v := .agg #[.pointer (some ⟨w.heap.size + 2, 0, none⟩)]) (by simp [results, Tryz.results234, go_sem, c0]) rfl ⟨_, rfl, HF.out _⟩
set_option maxRecDepth 100000 in
theorem dFromInt (x : Nat) (z : Int) (w : World) (hx : BigK w x z) (kz : Small z) (hT : Thr w) : Calls Tryz.prog 190 #[.agg #[.pointer (some ⟨x, 0, none⟩)]] w (RetDK (z * T18) w) := by
  have E2 := Lib.hid (ext2 w (intBox x) (.cells #[.pointer none] 84))
  have k1 := Lib.hid (blk_new1 w (intBox x) 84 [.pointer none])
  have H := Lib.hid (dFromIntP x z _ (hx.ext E2.out) kz (hT.ext E2.out))
  clear hx hT
  go_enter Tryz.func190, Tryz.ntmps190
  go_wp2_with (fail)
  go_at_call 234
  refine H.out.mono ?_
  rintro e w1 ⟨b, rfl, hB, hE⟩
  have hk := k1.out.ext hE
  have c0 : w1.cell? ⟨w.heap.size + 1, 0, none⟩ = some (.pointer none) := (hk.cell 0).trans rfl
  have fz := hk.frozen 0
  have HF := Lib.hid (fun v => And.intro ((hB.old E2.out).set_ hk 0 v) (Only.ext (E2.out.trans' hE) ((Only.refl (w.heap.size + 1) w1).set_ 0 v) (by omega)))
  clear hk hB hE
  go_wp2
  exact bodyPost_ret (v := .agg #[.pointer (some ⟨b, 0, none⟩)]) (by simp [results, Tryz.results190, go_sem, c0]) rfl ⟨b, rfl, HF.out _⟩

set_option maxRecDepth 100000 in
theorem kNewNegW (x : Nat) (w : World) (h0 : 0 < x) (h1 : x ≤ 9223372036854775808) : Calls Tryz.prog 86 #[.int .i64 (-(x : Int))] w (RetPK (-(x : Int)) w) := by
  have e : (-(x : Int) == 0) = false := by simp; omega
  have e' : decide (-(x : Int) < 0) = true := by simp; omega
  have E := Lib.hid (show IntKind.u64.wrap (-IntKind.u64.wrap (-(x : Int))) = -(-(x : Int)) by simp only [IntKind.wrap_u64]; omega)
  have H := Lib.hid (bigF_one w x true (by unfold B64; omega) (by omega))
  go_enter Tryz.func86, Tryz.ntmps86
  go_wp2
  go_ret
  refine ⟨_, rfl, ?_, (Ext.alloc' _ _).trans' (Ext.alloc' _ _)⟩
  rw [E.out, Int.neg_neg]
  simpa [bigVal, natOf_one] using H.out
theorem kNewW (x : Int) (w : World) (h0 : -9223372036854775808 ≤ x) (h1 : x ≤ 9223372036854775807) : Calls Tryz.prog 86 #[.int .i64 x] w (RetPK x w) := by
  rcases Int.lt_trichotomy x 0 with h | rfl | h
  · obtain ⟨n, rfl⟩ : ∃ n : Nat, x = -(n : Int) := ⟨(-x).toNat, by omega⟩
    exact kNewNegW n w (by omega) (by omega)
  · exact kNewZero w
  · obtain ⟨n, rfl⟩ : ∃ n : Nat, x = n := ⟨x.toNat, by omega⟩
    exact kNewPos n w (by omega) (by omega)
/-- An Int handed back, its words in a block of their own. -/
def RetIK (z : Int) (w : World) (e : Ending) (w' : World) : Prop := ∃ b, e = .returned (.agg #[.pointer (some ⟨b, 0, none⟩)]) ∧ BigK w' b z ∧ Ext w w'
set_option maxRecDepth 100000 in
theorem mNewIntK (x : Int) (w : World) (h0 : -9223372036854775808 ≤ x) (h1 : x ≤ 9223372036854775807) : Calls Tryz.prog 113 #[.int .i64 x] w (RetIK x w) := by
  have nb := Lib.hid (Blk.new w 102 [.pointer none])
  go_enter Tryz.func113, Tryz.ntmps113
  go_wp2_with (go_at_call 86; refine (kNewW x _ h0 h1).mono ?_; rintro e w' ⟨b, rfl, hB, hE⟩; have HB := Lib.hid hB; have b1 := Lib.hid (nb.out.ext hE); have HE := Lib.hid hE; clear hB hE; have c0 : w'.cell? ⟨w.heap.size, 0, none⟩ = some (.pointer none) := (b1.out.cell 0).trans rfl; have fz := b1.out.frozen 0)
  exact bodyPost_ret (v := .agg #[.pointer (some ⟨b, 0, none⟩)]) (by simp [results, Tryz.results113, go_sem, c0]) rfl ⟨b, rfl, HB.out.k.set_ b1.out 0 _, Only.ext ((Ext.alloc' _ _).trans' HE.out) ((Only.refl _ _).set_ 0 _) (Nat.le_refl _)⟩
/-- A coin handed back, its amount's words in a block of their own. -/
def RetCoinK (s : ByteArray) (z : Int) (w : World) (e : Ending) (w' : World) : Prop := ∃ b, e = .returned (coinV s b) ∧ BigK w' b z ∧ Ext w w'
set_option maxRecDepth 100000 in
theorem iCoinK (s : ByteArray) (n : Int) (w : World) (h0 : -9223372036854775808 ≤ n) (h1 : n ≤ 9223372036854775807) : Calls Tryz.prog 67 #[.agg #[.string s, .int .i64 n]] w (RetCoinK s n w) := by
  have k1 := Lib.hid ((blk_new0 w 46 [.string s, .int .i64 n]).alloc (.cells #[.string ByteArray.empty, .pointer none] 104))
  have k2 := Lib.hid (blk_new1 w (planBox s n) 104 [.string ByteArray.empty, .pointer none])
  go_enter Tryz.func67, Tryz.ntmps67
  go_wp2
  go_region_law (first | (go_simp; go_at_call 113; refine (mNewIntK n _ h0 h1).mono ?_; rintro e w1 ⟨b, rfl, hB, hE⟩; have hE' := Ext.undrew hE; have HB := Lib.hid hB; have HE := Lib.hid hE'; have s0 : w1.cell? ⟨w.heap.size, 0, none⟩ = some (.string s) := (((k1.out).ext hE').cell 0).trans rfl; have d0 : w1.cell? ⟨w.heap.size + 1, 0, none⟩ = some (.string ByteArray.empty) := (((k2.out).ext hE').cell 0).trans rfl; have d1 : w1.cell? ⟨w.heap.size + 1, 1, none⟩ = some (.pointer none) := (((k2.out).ext hE').cell 1).trans rfl; have f0 := ((k2.out).ext hE').frozen 0; have f1 := ((k2.out).ext hE').frozen 1; clear hE hE' hB))
  all_goals go_wp2
  all_goals exact bodyPost_ret (v := coinV s b) (by simp [results, Tryz.results67, go_sem, d0, d1]) rfl ⟨b, rfl, (HB.out.set_ (k2.out.ext HE.out) 0 _).set_ ((k2.out.ext HE.out).set_ 0 _) 1 _, Only.ext ((ext2 _ _ _).trans' HE.out) (((Only.refl _ _).set_ 0 _).set_ 1 _) (by omega)⟩
end Go.Proofs.YtcoffndnfaemoaaGreatDoor

namespace Go.Proofs.YtcoffndnfaemoaaGreatDoor
open Go Go.RowKit

theorem vDivTA (g c bx ox cx n : Nat) (ws xs : List Nat) (w : World) (hb : WB w g ws) (hl : n ≤ ws.length) (hxl : xs.length = n) (hn1 : 1 ≤ n) (hn : n ≤ 100000) (hc : n ≤ c) (hcx : n ≤ cx) (hsx : Src w g 0 bx ox xs) :
    Calls Tryz.prog 266 #[.slice (some ⟨g, 0, none⟩) n c, .int .u64 0, .slice (some ⟨bx, ox, none⟩) n cx, .int .u64 1000000000000000000] w
      (fun e w' => ∃ ds : List Nat, e = .returned (.int .u64 ((natOf xs % 1000000000000000000 : Nat) : Int)) ∧ ds.length = n ∧ (∀ d ∈ ds, d < B64) ∧ natOf ds = natOf xs / 1000000000000000000 ∧ WB w' g (over ws 0 ds) ∧ Only g w w') := by
  rcases (by omega : n = 1 ∨ 2 ≤ n) with rfl | h2
  · obtain ⟨x, rfl⟩ := List.length_eq_one_iff.1 hxl
    have hcell := hsx.2.1 0 (by simp)
    have hxb := hsx.1 x (by simp)
    rw [Nat.add_zero] at hcell
    rw [natOf_one]
    refine (vDivLow g c bx ox cx x 1000000000000000000 _ _ ws w hb hl hcell rfl rfl hxb (by omega)).mono ?_
    rintro e w' ⟨rfl, k, rfl⟩
    have hq : x / 1000000000000000000 < B64 := Nat.lt_of_le_of_lt (Nat.div_le_self _ _) hxb
    have hs := (hb.drewN k).set_ 0 _ hq
    rw [show ws.set 0 (x / 1000000000000000000) = over ws 0 [x / 1000000000000000000] by have := over_snoc (ws := ws) (o := 0) (ds := []) (x / 1000000000000000000) (by simp; omega); rwa [over_nil] at this] at hs
    exact ⟨[x / 1000000000000000000], rfl, rfl, by simpa using hq, natOf_one _, hs, ((Only.refl g w).drewN k).set_ 0 _⟩
  · exact vDivT g c bx ox cx n ws xs w hb hl hxl h2 hn hc hcx hsx

/-- A quotient in a receiver's room, and a word. -/
def RetQWG (gz N r : Nat) (w : World) (e : Ending) (w' : World) : Prop :=
  ∃ A c g ws, e = .returned (.tuple #[.slice A ws.length c, .int .u64 (r : Int)]) ∧ NatV w' A c g ws ∧ Norm ws ∧ natOf ws = N ∧ Only gz w w' ∧ (g = gz ∨ w.heap.size ≤ g)
set_option maxRecDepth 100000 in
set_option maxHeartbeats 1000000 in
/-- divW by 10^18. -/
theorem gDivWG (A : Option Addr) (n0 cz gz : Nat) (zs : List Nat) (B : Option Addr) (cb : Nat) (xs : List Nat) (m : Nat) (w : World) (hz : NatV w A cz gz zs) (hx : Opd w gz cz B cb xs) (hm : xs.length = m) (hmx : m ≤ 100000) :
    Calls Tryz.prog 230 #[.slice A n0 cz, .slice B m cb, .int .u64 1000000000000000000] w (RetQWG gz (natOf xs / 1000000000000000000) (natOf xs % 1000000000000000000) w) := by
  rcases Nat.eq_zero_or_pos m with h0 | h1
  · subst h0
    have hxs : xs = [] := List.eq_nil_of_length_eq_zero hm
    subst hxs
    have HV := Lib.hid hz.room
    have hcz := hz.room.le
    rcases hz with ⟨rfl, rfl, _⟩ | ⟨rfl, hc, _⟩
    · clear hx hm
      go_enter Tryz.func230, Tryz.ntmps230
      go_wp2
      go_ret2
      exact ⟨_, _, gz, [], by simp [natOf], HV.out, norm_nil, by simp [natOf], Only.refl _ _, Or.inl rfl⟩
    · clear hx hm
      go_enter Tryz.func230, Tryz.ntmps230
      go_wp2
      go_ret2
      exact ⟨_, _, gz, [], by simp [natOf], HV.out, norm_nil, by simp [natOf], Only.refl _ _, Or.inl rfl⟩
  · have hne : xs ≠ [] := by intro e; subst e; simp at hm; omega
    have H := Lib.hid (gMake A n0 cz gz zs m w hz h1 (by omega))
    have HX := Lib.hid hx
    have hcb : m ≤ cb := by have := hx.2.1; omega
    obtain ⟨bx, ox, hB, _⟩ := hx.2.2 hne
    subst hB
    have HL0 := Lib.hid hm; have HNE := Lib.hid hne
    have e0 : ((m : Int) == 0) = false := by simp; omega
    clear hx hm hne hz
    obtain ⟨q, hq⟩ : ∃ q, q = natOf xs / 1000000000000000000 := ⟨_, rfl⟩
    obtain ⟨r, hr⟩ : ∃ r, r = natOf xs % 1000000000000000000 := ⟨_, rfl⟩
    rw [← hq, ← hr]
    have HQ := Lib.hid hq; have HR := Lib.hid hr
    clear hq hr
    go_enter Tryz.func230, Tryz.ntmps230
    go_wp2_with (fail)
    go_at_call 169
    refine H.out.mono ?_
    rintro e w1 ⟨g, c', full, rfl, hc, hb, hl, hmd⟩
    obtain ⟨bx', ox', hA, hsx⟩ := HX.out.src HNE.out hmd
    injection hA with hA; injection hA with t1 t2 t3; subst t1; subst t2; clear t3
    have HC := Lib.hid (vDivTA g c' bx ox cb m full xs w1 hb (by omega) HL0.out h1 hmx hc.1 hcb hsx)
    rw [← HR.out, ← HQ.out] at HC
    have HL := Lib.hid hl; have HM := Lib.hid hmd; have HCC := Lib.hid hc
    clear hb hl hmd hc hsx
    go_wp2_with (fail)
    go_at_call 266
    refine HC.out.mono ?_
    rintro e w2 ⟨ds, rfl, hdl, hdb, hdv, hwb, ho⟩
    have HW := Lib.hid hwb; have HO := Lib.hid ho; have HDV := Lib.hid hdv; have HDL := Lib.hid hdl
    have HN := Lib.hid (natNorm g 0 c' ds m w2 hdl (by omega) HCC.out.1 (wb_cells hwb (by rw [hdl]; have := HL.out; have := HCC.out.1; omega)))
    clear hwb ho hdv hdl hdb
    go_wp2_with (fail)
    go_at_call 172
    refine HN.out.mono ?_
    rintro e w3 ⟨es, rfl, rfl, he, hN2, hve⟩
    have HEN := Lib.hid (norm_end (N := q) HM.out HO.out HW.out HL.out ⟨by have := HCC.out.1; omega, HCC.out.2⟩ (by rw [HDL.out]; have := HCC.out.1; omega) he hN2 hve HDV.out)
    clear he hN2 hve
    go_wp2
    go_ret2
    obtain ⟨A2, c2, g2, ws2, he2, hv2, hn2, hN3, ho2, hg2⟩ := HEN.out
    injection he2 with he2; injection he2 with h1 h2 h3
    subst h1; subst h3
    exact ⟨some ⟨g, 0, none⟩, c', g2, ws2, by rw [← h2]; rfl, hv2, hn2, hN3, ho2, hg2⟩

/-- A quotient in a receiver's room, and a remainder in room of its own. -/
def RetQRG (gz N M : Nat) (w : World) (e : Ending) (w' : World) : Prop :=
  ∃ A c g ws B d h vs, e = .returned (.tuple #[.slice A ws.length c, .slice B vs.length d]) ∧ (NatV w' A c g ws ∧ Norm ws ∧ natOf ws = N) ∧ (NatV w' B d h vs ∧ Norm vs ∧ natOf vs = M) ∧ Only gz w w' ∧ (g = gz ∨ w.heap.size ≤ g) ∧ w.heap.size ≤ h
set_option maxRecDepth 100000 in
/-- div by 10^18, the remainder's receiver nil. -/
theorem gDivG (A : Option Addr) (n0 cz gz : Nat) (zs : List Nat) (B D : Option Addr) (cb cd : Nat) (xs : List Nat) (m : Nat) (w : World) (hz : NatV w A cz gz zs) (hx : Opd w gz cz B cb xs) (hm : xs.length = m) (hmx : m ≤ 100000) (hy : Words w D [1000000000000000000]) :
    Calls Tryz.prog 183 #[.slice A n0 cz, .pointer none, .slice none 0 0, .slice B m cb, .slice D 1 cd] w (RetQRG gz (natOf xs / 1000000000000000000) (natOf xs % 1000000000000000000) w) := by
  obtain ⟨by0, oy, rfl, ⟨cs, hbl⟩, hcell⟩ := hy.2 (by simp)
  have hcy : w.cell? ⟨by0, oy, none⟩ = some (.int .u64 1000000000000000000) := hcell 0 (by simp)
  have H := Lib.hid (gDivWG A n0 cz gz zs B cb xs m w hz hx hm hmx)
  obtain ⟨q, hq⟩ : ∃ q, q = natOf xs / 1000000000000000000 := ⟨_, rfl⟩
  obtain ⟨r, hr⟩ : ∃ r, r = natOf xs % 1000000000000000000 := ⟨_, rfl⟩
  have HRB := Lib.hid (show r < B64 by rw [hr]; exact Nat.lt_trans (Nat.mod_lt _ (by omega)) (show 1000000000000000000 < B64 by unfold B64; omega))
  rw [← hq, ← hr] at H
  rw [← hq, ← hr]
  clear hx hm hy hcell hq hr hmx hz
  go_enter Tryz.func183, Tryz.ntmps183
  go_wp2_with (fail)
  go_at_call 230
  refine H.out.mono ?_
  rintro e w1 ⟨A1, c1, g1, ws, rfl, hR⟩
  have HR := Lib.hid hR; clear hR
  have HS := Lib.hid (gSetWord none 0 0 w1.heap.size [] r w1 (NatV.nil _ _) HRB.out)
  go_wp2_with (fail)
  go_at_call 231
  refine HS.out.mono ?_
  rintro e w2 ⟨A2, c2, g2, vs, rfl, hR2⟩
  have HR2 := Lib.hid hR2; clear hR2
  go_wp2
  go_ret2
  obtain ⟨h1, h2, h3, h4, h5⟩ := HR.out
  obtain ⟨k1, k2, k3, k4, k5⟩ := HR2.out
  have hE := Only.ext (Ext.refl w1) k4 (Nat.le_refl _)
  have hs1 := h4.size
  refine ⟨A1, c1, g1, ws, A2, c2, g2, vs, rfl, ⟨h1.ext hE, h2, h3⟩, ⟨k1, k2, k3⟩, ?_, h5, ?_⟩
  · exact ⟨hE.os.trans h4.os, hE.tape.trans h4.tape, hE.output.trans h4.output, Nat.le_trans h4.size hE.size, fun i hi hne => (hE.block i (Nat.lt_of_lt_of_le hi h4.size)).trans (h4.block i hi hne)⟩
  · rcases k5 with rfl | k5 <;> omega

theorem Only.undrew' {g : Nat} {w w1 : World} (h : Only g w.drew w1) : Only g w w1 := ⟨h.os, h.tape, h.output, h.size, h.block⟩
theorem room_now' {w : World} {A : Option Addr} {c g : Nat} {ws : List Nat} (h : NatV w A c g ws) : ∃ gz, NatV w A c gz ws ∧ (gz = g ∨ gz = w.heap.size) ∧ gz ≤ w.heap.size ∧ (gz ≠ w.heap.size → A ≠ none) := by
  rcases h with ⟨hA, hc, hw⟩ | ⟨hA, hc, hl, full, hf, hr⟩
  · exact ⟨w.heap.size, Or.inl ⟨hA, hc, hw⟩, Or.inr rfl, Nat.le_refl _, fun h => absurd rfl h⟩
  · exact ⟨g, Or.inr ⟨hA, hc, hl, full, hf, hr⟩, Or.inl rfl, Nat.le_of_lt hf.lt, fun _ => by rw [hA]; simp⟩
set_option maxRecDepth 100000 in
set_option maxHeartbeats 4000000 in
/-- Quo by 10^18 in place. -/
theorem pQuoT (b x' g c : Nat) (z : Int) (w : World) (hx : BigV w b g c z) (hy : BigK w x' T18) (kz : Small z) (_ : x' ≠ b) (hxg : x' ≠ g) :
    Calls Tryz.prog 178 #[.pointer (some ⟨b, 0, none⟩), .pointer (some ⟨b, 0, none⟩), .pointer (some ⟨x', 0, none⟩)] w (RetIP b g (Int.tdiv z T18) w) := by
  obtain ⟨hgb, A, xs, s, hbk, hbv, hN, _, rfl⟩ := hx
  obtain ⟨B, d, y, hby, hwy, hNy, hvy⟩ := t18_words hy.at_
  have hy18 : y = 1000000000000000000 := by rw [natOf_one] at hvy; exact hvy
  subst hy18
  obtain ⟨gz, hz, hgz, hgl, hgA⟩ := room_now' hbv
  have l1 := big_len hN kz
  have hbl := hbk.lt; have hxl := hy.lt
  have hzb : gz ≠ b := by rcases hgz with rfl | rfl <;> omega
  have hzx : gz ≠ x' := by rcases hgz with rfl | rfl <;> omega
  have HD := Lib.hid (fun (W : World) (e : Ext w W) => gDivG A xs.length c gz xs A B c d xs xs.length W (hz.ext e) ((hz.opd gz c (Or.inr rfl)).ext e) rfl (by omega) (hwy.ext e))
  obtain ⟨N, hNe⟩ : ∃ N, N = natOf xs / 1000000000000000000 := ⟨_, rfl⟩
  have HQ := Lib.hid (show ∀ ws, natOf ws = N → Int.tdiv (bigVal s xs) T18 = bigVal s ws by
    intro ws hw
    have h := quoSign (s := s) (xs := xs) (ys := [1000000000000000000]) (ws := ws) (by rw [hw, hNe, natOf_one])
    rw [natOf_one] at h
    exact h)
  rw [← hNe] at HD
  have z0 : w.cell? ⟨b, 0, none⟩ = some (.bool s) := (hbk.cell 0).trans rfl
  have z1 : w.cell? ⟨b, 1, none⟩ = some (.slice A xs.length c) := (hbk.cell 1).trans rfl
  have y0 : w.cell? ⟨x', 0, none⟩ = some (.bool false) := (hby.cell 0).trans rfl
  have y1 : w.cell? ⟨x', 1, none⟩ = some (.slice B 1 d) := (hby.cell 1).trans rfl
  have HB := Lib.hid hbk; have HY := Lib.hid hby
  obtain ⟨n, hn⟩ : ∃ n, n = xs.length := ⟨_, rfl⟩
  rw [← hn] at HD z1 HB
  have HGZ := Lib.hid hgz
  clear hbk hbv hz hgA hwy hy hNe hn hby
  cases s
  all_goals
    go_enter Tryz.func178, Tryz.ntmps178
    go_wp2
    go_region_law (first | (go_simp; go_at_call 183; refine (HD.out _ (by exact Ext.drewN' _ _)).mono ?_; rintro e w1 ⟨A', c', g', ws', B', d', h', vs', rfl, hn1, hn2, ho, hg', hh'⟩; have HO := Lib.hid (show Only gz w w1 by first | exact ho | exact Only.undrew' ho); have kb := HO.out.block' HB.out (Ne.symm hzb); have ky := HO.out.block' HY.out (Ne.symm hzx); have z0' : w1.cell? ⟨b, 0, none⟩ = some _ := kb.cell 0; have z1' : w1.cell? ⟨b, 1, none⟩ = some _ := kb.cell 1; have y0' : w1.cell? ⟨x', 0, none⟩ = some _ := ky.cell 0; have fz1 := kb.frozen 1; have fz0 := kb.frozen 0; have HN1 := Lib.hid hn1; have HG := Lib.hid (show g' = gz ∨ w.heap.size ≤ g' from hg'); have KB := Lib.hid kb; clear hn1 hn2 ho hg' hh' kb ky))
    all_goals go_wp2
    all_goals (obtain ⟨k, hk⟩ : ∃ k, ws'.length = k := ⟨_, rfl⟩)
    all_goals (rw [hk])
    all_goals (have HK := Lib.hid hk; clear hk)
    all_goals (rcases Nat.eq_zero_or_pos k with h0 | h0)
    all_goals (first | subst h0 | (have hd : (0 : Int) < (k : Int) := by omega))
    all_goals go_region
    all_goals go_wp2
    all_goals go_ret
    all_goals exact RetBV.place ⟨rfl, endV_drew (endV HB.out hzb HO.out HN1.out.1 HG.out HN1.out.2.1 HK.out (HQ.out _ HN1.out.2.2) _ (by first | rfl | (rw [decide_eq_true h0]; rfl)))⟩ HGZ.out
end Go.Proofs.YtcoffndnfaemoaaGreatDoor

namespace Go.Proofs.YtcoffndnfaemoaaGreatDoor
open Go Go.RowKit

set_option maxRecDepth 100000 in
set_option maxHeartbeats 1000000 in
/-- chopPrecisionAndTruncate of a number that is wholly newer than w0. -/
theorem cChopT (w0 w : World) (x : Nat) (z : Int) (hE : Ext w0 w) (hx : BigF w0 w x z) (kz : Small z) (hT : Thr w0) :
    Calls Tryz.prog 164 #[.pointer (some ⟨x, 0, none⟩)] w (fun e w' => e = .returned (.tuple #[]) ∧ BigF w0 w' x (Int.tdiv z T18) ∧ Ext w0 w') := by
  obtain ⟨hxb, g, c, hv, hg⟩ := hx
  have hxl := hv.k.lt
  have HV := Lib.hid hv; have HE := Lib.hid hE; have HT := Lib.hid (hT.ext hE)
  have hs0 := hE.size
  clear hv hE hT
  go_enter Tryz.func164, Tryz.ntmps164
  go_wp2_with (fail)
  go_at_call 177
  refine (dPrec w HT.out).mono ?_
  rintro e w1 ⟨p1, rfl, h1, x1⟩
  obtain ⟨g3, hv3, hg3⟩ := HV.out.renew x1
  have hp1 := h1.1
  have hpl := h1.k.lt
  have hs1 := x1.size
  have n1 : p1 ≠ x := by omega
  have n2 : p1 ≠ g3 := by rcases hg3 with ⟨rfl, h⟩ | rfl <;> omega
  have hgw : w0.heap.size ≤ g3 := by rcases hg3 with ⟨rfl, _⟩ | rfl <;> omega
  have HQ := Lib.hid (pQuoT x p1 g3 c z w1 hv3 h1.k kz n1 n2)
  have HE1 := Lib.hid (HE.out.trans' x1)
  clear hv3 hg3 h1 x1 n1 n2 hp1 hpl
  go_wp2_with (fail)
  go_at_call 178
  refine HQ.out.mono ?_
  rintro e w2 ⟨rfl, g', c', hv', hg', ho⟩
  have hE4 : Ext w0 w2 := ho.ext HE1.out hxb hgw
  have HR := Lib.hid (show BigF w0 w2 x (Int.tdiv z T18) ∧ Ext w0 w2 from ⟨⟨hxb, g', c', hv', by have := HE1.out.size; rcases hg' with rfl | h <;> omega⟩, hE4⟩)
  clear hv' hg' ho hE4
  go_wp2
  go_end0
  exact ⟨rfl, HR.out⟩
set_option maxRecDepth 100000 in
theorem cChopTN (x : Nat) (z : Int) (w : World) (hx : BigK w x z) (kz : Small z) (hT : Thr w) :
    Calls Tryz.prog 236 #[.pointer (some ⟨x, 0, none⟩)] w (RetPK (Int.tdiv z T18) w) := by
  have HB := Lib.hid (new0 w); have HX := Lib.hid (hx.ext (ext1 w (.cells #[.bool false, .slice none 0 0] 126))); have HT := Lib.hid hT; have KZ := Lib.hid kz
  have hxl := hx.lt
  clear hx hT kz
  go_enter Tryz.func236, Tryz.ntmps236
  go_wp2_with (fail)
  go_at_call 181
  refine (vSet w.heap.size x z _ HX.out (by omega) HB.out KZ.out).mono ?_
  rintro e w1 h1
  obtain ⟨b, rfl, hf, x1⟩ := h1.fin (ext1 _ _) (Nat.le_refl _)
  have HC := Lib.hid (cChopT w w1 b z x1 hf KZ.out HT.out)
  clear h1 hf x1
  go_wp2_with (fail)
  go_at_call 164
  refine HC.out.mono ?_
  rintro e w2 ⟨rfl, hf, hE⟩
  have HR := Lib.hid (And.intro hf hE); clear hf hE
  go_wp2
  go_ret
  exact ⟨b, rfl, HR.out⟩
set_option maxRecDepth 100000 in
theorem mFromBigMut (x : Nat) (z : Int) (w : World) (hx : BigK w x z) (hz : z.natAbs < B64) :
    Calls Tryz.prog 235 #[.pointer (some ⟨x, 0, none⟩)] w (RetE (.agg #[.pointer (some ⟨x, 0, none⟩)]) w) := by
  have k0 := Lib.hid (blk_new0 w 102 [.pointer none])
  have H := Lib.hid (cOverflows (.pointer (some ⟨x, 0, none⟩)) z _ ((hx.ext (ext1 w (.cells #[.pointer none] 102))).at_.big) hz)
  have hp : ∀ (W : World) (r : Nat), (binOp .eql 82 (.pointer (some ⟨r, 0, none⟩)) (.pointer none)).run Tryz.prog W = .ok (.bool false) W := fun _ _ => by kernel_rfl
  clear hx hz
  have c0 := k0.out.cell 0; have fz := k0.out.frozen 0
  go_enter Tryz.func235, Tryz.ntmps235
  go_wp2_with (go_at_call 272; refine H.out.mono ?_; rintro e w' ⟨rfl, rfl⟩)
  exact bodyPost_ret (v := .agg #[.pointer (some ⟨x, 0, none⟩)]) (by simp [results, Tryz.results235, go_sem]) rfl ⟨rfl, ext1 _ _⟩
set_option maxRecDepth 100000 in
theorem dTruncInt (x : Nat) (z : Int) (w : World) (hx : BigK w x z) (kz : Small z) (hq : (Int.tdiv z T18).natAbs < B64) (hT : Thr w) :
    Calls Tryz.prog 191 #[.agg #[.pointer (some ⟨x, 0, none⟩)]] w (RetIK (Int.tdiv z T18) w) := by
  have E2 := Lib.hid (ext2 w (decBox x) (.cells #[.pointer none] 102))
  have k1 := Lib.hid (blk_new1 w (decBox x) 102 [.pointer none])
  have HC := Lib.hid (cChopTN x z _ (hx.ext E2.out) kz (hT.ext E2.out))
  have HQ := Lib.hid hq
  obtain ⟨q, hqq⟩ : ∃ q, q = Int.tdiv z T18 := ⟨_, rfl⟩
  rw [← hqq] at HC HQ ⊢
  clear hx kz hq hT hqq
  go_enter Tryz.func191, Tryz.ntmps191
  go_wp2_with (fail)
  go_at_call 236
  refine HC.out.mono ?_
  rintro e w1 ⟨b, rfl, hf, x1⟩
  have HM := Lib.hid (mFromBigMut b q w1 hf.k HQ.out)
  have HK := Lib.hid hf.k; have HE1 := Lib.hid x1
  clear hf x1
  go_wp2_with (fail)
  go_at_call 235
  refine HM.out.mono ?_
  rintro e w2 ⟨rfl, x2⟩
  have hk := k1.out.ext (HE1.out.trans' x2)
  have c0 : w2.cell? ⟨w.heap.size + 1, 0, none⟩ = some (.pointer none) := (hk.cell 0).trans rfl
  have fz := hk.frozen 0
  have HF := Lib.hid (fun v => And.intro ((HK.out.ext x2).set_ hk 0 v) (Only.ext ((E2.out.trans' HE1.out).trans' x2) ((Only.refl (w.heap.size + 1) w2).set_ 0 v) (by omega)))
  clear hk x2
  go_wp2
  exact bodyPost_ret (v := .agg #[.pointer (some ⟨b, 0, none⟩)]) (by simp [results, Tryz.results191, go_sem, c0]) rfl ⟨b, rfl, HF.out _⟩
end Go.Proofs.YtcoffndnfaemoaaGreatDoor
