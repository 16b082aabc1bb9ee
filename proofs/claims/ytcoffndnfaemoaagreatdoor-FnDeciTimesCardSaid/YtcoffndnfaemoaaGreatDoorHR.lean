/-
  Numbers of any size asked whether they are an int64, and turned into one; decimals of any size divided by 10^18.
  impl.backDec of any decimal: plain data, or none if the whole part is no int64; backOne, backDecs.
  impl.backOne and backDecs of any decimals: plain data, or none if a whole part is no int64.
-/
import Derived.Test.YtcoffndnfaemoaaGreatDoorGR
namespace Go.Proofs.YtcoffndnfaemoaaGreatDoor
open Go Go.RowKit

/-- The whole part is an int64. -/
def FitW (z : Int) : Prop := -9223372036854775808 ≤ Int.tdiv z T18 ∧ Int.tdiv z T18 ≤ 9223372036854775807
instance (z : Int) : Decidable (FitW z) := inferInstanceAs (Decidable (_ ∧ _))
def i64B (z : Int) : Bool := decide (-9223372036854775808 ≤ z ∧ z ≤ 9223372036854775807)
theorem wrapLow {m : Nat} (h : m < 9223372036854775808) : wrap64 (m : Int) = m ∧ wrap64 (-(m : Int)) = -(m : Int) := by unfold wrap64; omega
theorem w63 : wrap64 9223372036854775808 = -9223372036854775808 := by unfold wrap64; omega
theorem w63b : wrap64 (-9223372036854775808) = -9223372036854775808 := by unfold wrap64; omega
theorem w63c : decide (0 ≤ wrap64 9223372036854775808) = false := by rw [w63]; decide
theorem w63d : (decide (0 ≤ wrap64 9223372036854775808) || (wrap64 9223372036854775808 == wrap64 (-wrap64 9223372036854775808))) = true := by rw [w63]; rw [show (- -9223372036854775808 : Int) = 9223372036854775808 from rfl, w63]; decide
theorem w63e : wrap64 (-wrap64 9223372036854775808) = -9223372036854775808 := by rw [w63]; rw [show (- -9223372036854775808 : Int) = 9223372036854775808 from rfl, w63]
theorem wrapHigh {m : Nat} (h : 9223372036854775808 ≤ m) (hb : m < B64) : wrap64 (m : Int) = (m : Int) - 18446744073709551616 := by unfold wrap64; unfold B64 at hb; omega

set_option maxRecDepth 100000 in
theorem intIsInt64G (v : Value) (z : Int) (w : World) (hv : IsBig w v z) : Calls Tryz.prog 142 #[v] w fun e w' => e = .returned (.bool (i64B z)) ∧ w' = w := by
  obtain ⟨x, rfl, A, c, ws, neg, hx, hw, hl, hN, hz, rfl⟩ := hv
  have c0 : w.cell? ⟨x, 0, none⟩ = some (.bool neg) := (hx.cell 0).trans rfl
  have c1 : w.cell? ⟨x, 1, none⟩ = some (.slice A ws.length c) := (hx.cell 1).trans rfl
  by_cases hlen : ws.length ≤ 1
  · have HL := Lib.hid (natLow A c ws w hw hlen)
    have hb := natOf_lt ws hw.1
    have hm64 : natOf ws < B64 := Nat.lt_of_lt_of_le hb (by have := Nat.pow_le_pow_right B64_pos hlen; rw [Nat.pow_one] at this; exact this)
    obtain ⟨m, hm⟩ : ∃ m, m = natOf ws := ⟨_, rfl⟩
    rw [← hm] at HL hm64
    obtain ⟨n, hn⟩ : ∃ n, ws.length = n := ⟨_, rfl⟩
    rw [hn] at c1 HL hlen
    have e1 : decide (n ≤ 1) = true := by simpa using hlen
    have hB : i64B (bigVal neg ws) = (decide (m < 9223372036854775808) || (neg && decide (m = 9223372036854775808))) := by
      unfold i64B bigVal
      rw [← hm]
      cases neg
      · simp only [Bool.false_and, Bool.or_false, if_false, Bool.false_eq_true]
        apply Bool.eq_iff_iff.2; simp only [decide_eq_true_eq]; omega
      · simp only [Bool.true_and, if_true]
        apply Bool.eq_iff_iff.2; simp only [decide_eq_true_eq, Bool.or_eq_true]; omega
    rw [hB]
    clear hx hw hN hz hl hm hn hb hB
    rcases Nat.lt_trichotomy m 9223372036854775808 with h | h | h
    · have E2 : decide (0 ≤ wrap64 (m : Int)) = true := by rw [(wrapLow h).1]; simp
      have hd : decide (m < 9223372036854775808) = true := decide_eq_true h
      rw [hd, Bool.true_or]
      clear h hd hm64
      go_enter Tryz.func142, Tryz.ntmps142
      go_wp2_with (go_at_call 184; refine HL.out.mono ?_; rintro e w' ⟨rfl, rfl⟩)
      go_ret
      exact ⟨rfl, rfl⟩
    · subst h
      have h63 := w63
      have h64 := w63b
      simp only [Nat.lt_irrefl, decide_false, Bool.false_or, decide_true, Bool.and_true]
      cases neg
      all_goals
        go_enter Tryz.func142, Tryz.ntmps142
        go_wp2_with (go_at_call 184; refine HL.out.mono ?_; rintro e w' ⟨rfl, rfl⟩)
        go_ret
        first | exact ⟨rfl, rfl⟩ | exact ⟨congrArg (fun b => Ending.returned (.bool b)) w63c, rfl⟩ | exact ⟨congrArg (fun b => Ending.returned (.bool b)) w63d, rfl⟩
    · have hw := wrapHigh (Nat.le_of_lt h) hm64
      have E2 : decide (0 ≤ wrap64 (m : Int)) = false := by rw [hw]; unfold B64 at hm64; simp; omega
      have E3 : (wrap64 (m : Int) == wrap64 (-wrap64 (m : Int))) = false := by
        rw [hw]; unfold B64 at hm64
        simp only [beq_eq_false_iff_ne]; unfold wrap64; omega
      have hd : decide (m < 9223372036854775808) = false := decide_eq_false (by omega)
      have hd2 : decide (m = 9223372036854775808) = false := decide_eq_false (by omega)
      rw [hd, hd2, Bool.false_or, Bool.and_false]
      clear h hd hd2 hm64 hw
      cases neg
      all_goals
        go_enter Tryz.func142, Tryz.ntmps142
        go_wp2_with (go_at_call 184; refine HL.out.mono ?_; rintro e w' ⟨rfl, rfl⟩)
        go_ret
        exact ⟨rfl, rfl⟩
  · have hge := natOf_ge hN (ws.length - 1) (by omega)
    have h3 : B64 ^ 1 ≤ B64 ^ (ws.length - 1) := Nat.pow_le_pow_right B64_pos (by omega)
    rw [Nat.pow_one] at h3
    have hB : i64B (bigVal neg ws) = false := by
      unfold i64B bigVal
      unfold B64 at h3 hge
      apply decide_eq_false
      cases neg <;> simp <;> omega
    rw [hB]
    obtain ⟨n, hn⟩ : ∃ n, ws.length = n := ⟨_, rfl⟩
    rw [hn] at c1 hlen
    have e1 : decide (n ≤ 1) = false := by simpa using hlen
    clear hx hw hN hz hl hn hge h3 hB
    go_enter Tryz.func142, Tryz.ntmps142
    go_wp2
    go_ret
    exact ⟨rfl, rfl⟩

theorem natLowAny (A : Option Addr) (c : Nat) (ws : List Nat) (w : World) (hw : Words w A ws) (hl : ws.length ≤ 1) : Calls Tryz.prog 184 #[.slice A ws.length c] w fun e w' => e = .returned (.int .u64 (natOf ws : Int)) ∧ w' = w := natLow A c ws w hw hl
set_option maxRecDepth 100000 in
/-- Int64 of the least number. -/
theorem intInt64M (v : Value) (w : World) (hv : IsBig w v (-9223372036854775808)) : Calls Tryz.prog 143 #[v] w fun e w' => e = .returned (.int .i64 (-9223372036854775808)) ∧ w' = w := by
  obtain ⟨x, rfl, A, c, ws, neg, hx, hw, hl, hN, hz, hv⟩ := hv
  have hneg : neg = true := by cases neg <;> simp [bigVal] at hv <;> first | rfl | omega
  subst hneg
  have hm : natOf ws = 9223372036854775808 := by simp only [bigVal, if_true] at hv; omega
  have c0 : w.cell? ⟨x, 0, none⟩ = some (.bool true) := (hx.cell 0).trans rfl
  have c1 : w.cell? ⟨x, 1, none⟩ = some (.slice A ws.length c) := (hx.cell 1).trans rfl
  have hlen : ws.length ≤ 1 := len_le_one hN (by rw [hm]; unfold B64; omega)
  have HL := Lib.hid (natLow A c ws w hw hlen)
  rw [hm] at HL
  obtain ⟨n, hn⟩ : ∃ n, ws.length = n := ⟨_, rfl⟩
  rw [hn] at c1 HL
  clear hx hw hN hz hl hlen hm hv hn
  go_enter Tryz.func143, Tryz.ntmps143
  go_wp2_with (go_at_call 184; refine HL.out.mono ?_; rintro e w' ⟨rfl, rfl⟩)
  go_ret
  exact ⟨congrArg (fun b => Ending.returned (.int .i64 b)) w63e, rfl⟩
theorem intInt64G (v : Value) (z : Int) (w : World) (hv : IsBig w v z) (h : i64B z = true) : Calls Tryz.prog 143 #[v] w fun e w' => e = .returned (.int .i64 z) ∧ w' = w := by
  have hb : -9223372036854775808 ≤ z ∧ z ≤ 9223372036854775807 := by unfold i64B at h; exact of_decide_eq_true h
  by_cases e : z = -9223372036854775808
  · subst e; exact intInt64M v w hv
  · exact intInt64 v z w hv (by unfold maxI; omega) (by unfold maxI; omega)

set_option maxRecDepth 100000 in
theorem vQuoRem18G (b rb x x' : Nat) (z : Int) (w : World) (hx : BigAt w x z) (hy : BigAt w x' T18) (hz : Small z) (hb : Blk w b 126 [.bool false, .slice none 0 0]) (hr : Blk w rb 126 [.bool false, .slice none 0 0])
    (hne : b ≠ rb) (hxb : x ≠ b) (hyb : x' ≠ b) (hxr : x ≠ rb) (hyr : x' ≠ rb) :
    Calls Tryz.prog 140 #[.pointer (some ⟨b, 0, none⟩), .pointer (some ⟨x, 0, none⟩), .pointer (some ⟨x', 0, none⟩), .pointer (some ⟨rb, 0, none⟩)] w
      (RetQRI b rb (Int.tdiv z T18) (Int.tmod z T18) w) := by
  obtain ⟨A, c, xs, s, hbx, hwx, hlx, hNx, -, rfl⟩ := hx
  obtain ⟨B, d, y, hby, hwy, hNy, hvy⟩ := t18_words hy
  have e18 : T18 = (natOf [y] : Int) := by rw [hvy]; rfl
  unfold Small at hz
  rw [natAbs_bigVal] at hz
  rw [e18]
  have hy18 : y = 1000000000000000000 := by rw [natOf_one] at hvy; exact hvy
  subst hy18
  have hlen : xs.length ≤ 30 := by
    rcases Nat.lt_or_ge 30 xs.length with h1 | h1
    · have h2 := natOf_ge hNx (xs.length - 1) (by omega)
      have h3 : B64 ^ 30 ≤ B64 ^ (xs.length - 1) := Nat.pow_le_pow_right B64_pos (by omega)
      omega
    · exact h1
  have H := fun W (e : Ext w W) => gDivT A B c d xs xs.length W (hwx.ext e) hNx rfl (by omega) hlx (hwy.ext e)
  rw [← natOf_one 1000000000000000000] at H
  exact vQuoRem s ((hbx.cell 0).trans rfl) ((hbx.cell 1).trans rfl) ((hby.cell 0).trans rfl) ((hby.cell 1).trans rfl) hb hr hne hxb hyb hxr hyr H
end Go.Proofs.YtcoffndnfaemoaaGreatDoor

namespace Go.Proofs.YtcoffndnfaemoaaGreatDoor
open Go Go.RowKit

theorem tmod_b (z : Int) : -maxI ≤ Int.tmod z T18 ∧ Int.tmod z T18 ≤ maxI := by
  have h2 : (Int.tmod z T18).natAbs = z.natAbs % 1000000000000000000 := by rw [Int.natAbs_tmod]; rfl
  unfold maxI
  omega
set_option maxRecDepth 100000 in
set_option maxHeartbeats 1000000 in
theorem iBackDecT (x : Nat) (z : Int) (w : World) (hx : BigK w x z) (hz : Small z) (hf : FitW z) :
    Calls Tryz.prog 104 #[.agg #[.pointer (some ⟨x, 0, none⟩)]] w (RetE (.tuple #[.agg #[.int .i64 (Int.tdiv z T18), .int .i64 (Int.tmod z T18)], .bool true]) w) := by
  have k0 := Lib.hid ((blk_new0 w 84 [.pointer (some ⟨x, 0, none⟩)]).alloc (.cells #[.int .i64 0, .int .i64 0] 24))
  have k1 := Lib.hid (blk_new1 w (decBox x) 24 [.int .i64 0, .int .i64 0])
  have HX := Lib.hid hx; have HZ := Lib.hid hz
  have hxl := hx.lt
  obtain ⟨q, hq⟩ : ∃ q, q = Int.tdiv z T18 := ⟨_, rfl⟩
  obtain ⟨r, hr⟩ : ∃ r, r = Int.tmod z T18 := ⟨_, rfl⟩
  have HB := Lib.hid (show i64B q = true ∧ (-maxI ≤ r ∧ r ≤ maxI) by rw [hq, hr]; exact ⟨decide_eq_true hf, tmod_b z⟩)
  have HQ := Lib.hid hq; have HRR := Lib.hid hr
  rw [← hq, ← hr]
  clear hx hz hq hr hf
  go_enter Tryz.func104, Tryz.ntmps104
  go_wp2_with (fail)
  go_at_call 139
  refine (dIsNil x _).mono ?_
  rintro e w1 ⟨rfl, hE⟩
  have c0 : w1.cell? ⟨w.heap.size, 0, none⟩ = some (.pointer (some ⟨x, 0, none⟩)) := ((k0.out.ext hE).cell 0).trans rfl
  have K1 := Lib.hid (k1.out.ext hE)
  have HE := Lib.hid ((ext2 _ _ _).trans' hE)
  have sz := HE.out.size; have l0 := cell_lt c0
  clear hE
  go_wp2_with (fail)
  go_at_call 141
  refine (dBigInt x z _ (HX.out.ext (HE.out.trans' (ext1 _ _))) HZ.out).mono ?_
  rintro e w2 ⟨p2, rfl, hB2, hE2⟩
  have HB2 := Lib.hid hB2
  have HE2 := Lib.hid hE2
  clear hE2 hB2 c0 l0
  go_wp2_with (fail)
  go_at_call 87
  refine (iUnit _).mono ?_
  rintro e w3 ⟨p3, rfl, hB3, hE3⟩
  have HB3 := Lib.hid hB3
  have HE3 := Lib.hid hE3
  have s2 := HE2.out.size; have s3 := HE3.out.size
  have lq : w1.heap.size < w2.heap.size := by simp at s2; omega
  have m2 := HB2.out.1; have m3 := HB3.out.1
  clear hE3 hB3
  go_wp2_with (fail)
  go_at_call 140
  have E13 := (HE2.out.trans' HE3.out).trans' (ext1 w3 (.cells #[.bool false, .slice none 0 0] 126))
  have l2 := HB2.out.k.lt; have l3 := HB3.out.k.lt
  have m2' : w1.heap.size < p2 := by have : w1.heap.size + 1 ≤ p2 := by simpa using m2
                                     omega
  refine (vQuoRem18G w1.heap.size w3.heap.size p2 p3 z _ (((HB2.out.k).ext (HE3.out.trans' (ext1 _ _))).at_) (((HB3.out.k).ext (ext1 _ _)).at_) HZ.out ((blk_new0 w1 126 [.bool false, .slice none 0 0]).ext E13) (blk_new0 w3 126 [.bool false, .slice none 0 0]) (by omega) (by omega) (by omega) (by omega) (by omega)).mono ?_
  rw [← HQ.out, ← HRR.out]
  rintro e w4 ⟨rfl, hq4, hr4, ho⟩
  have k1l := K1.out.lt
  have kne : w.heap.size + 1 ≠ w1.heap.size := by omega
  have k1' := ho.blk (K1.out.ext ((ext1 _ _).trans' E13)) kne (by omega)
  have d0 : w4.cell? ⟨w.heap.size + 1, 0, none⟩ = some (.int .i64 0) := (k1'.cell 0).trans rfl
  have d1 : w4.cell? ⟨w.heap.size + 1, 1, none⟩ = some (.int .i64 0) := (k1'.cell 1).trans rfl
  have f0 := k1'.frozen 0; have f1 := k1'.frozen 1
  have HEW := Lib.hid (Only2.ext (HE.out.trans' ((ext1 _ _).trans' E13)) ho (by omega) (by omega))
  have HI := Lib.hid (intIsInt64G (.pointer (some ⟨w1.heap.size, 0, none⟩)) q w4 ⟨_, rfl, hq4⟩)
  have H1 := Lib.hid (intInt64G (.pointer (some ⟨w1.heap.size, 0, none⟩)) q w4 ⟨_, rfl, hq4⟩ HB.out.1)
  have H2 := Lib.hid (intInt64 (.pointer (some ⟨w3.heap.size, 0, none⟩)) r w4 ⟨_, rfl, hr4⟩ HB.out.2.1 HB.out.2.2)
  rw [HB.out.1] at HI
  clear E13 l2 l3 m2 m2' m3 hq4 hr4 ho k1l kne k1'
  go_wp2_with (fail)
  go_at_call 142
  refine HI.out.mono ?_
  rintro e w5 ⟨rfl, h5⟩
  obtain rfl := h5
  go_wp2_with (fail)
  go_at_call 143
  refine H1.out.mono ?_
  rintro e w5 ⟨rfl, h5⟩
  obtain rfl := h5
  go_wp2_with (fail)
  go_at_call 143
  refine H2.out.mono ?_
  rintro e w5 ⟨rfl, h5⟩
  obtain rfl := h5
  go_wp2
  exact bodyPost_ret (v := .tuple #[.agg #[.int .i64 q, .int .i64 r], .bool true]) (by simp [results, Tryz.results104, go_sem, d0, d1]) rfl ⟨rfl, Only.ext HEW.out (((Only.refl _ _).set_ 0 _).set_ 1 _) (by omega)⟩
set_option maxRecDepth 100000 in
set_option maxHeartbeats 1000000 in
theorem iBackDecN (x : Nat) (z : Int) (w : World) (hx : BigK w x z) (hz : Small z) (hf : ¬ FitW z) :
    Calls Tryz.prog 104 #[.agg #[.pointer (some ⟨x, 0, none⟩)]] w (RetE (.tuple #[.agg #[.int .i64 0, .int .i64 0], .bool false]) w) := by
  have k0 := Lib.hid ((blk_new0 w 84 [.pointer (some ⟨x, 0, none⟩)]).alloc (.cells #[.int .i64 0, .int .i64 0] 24))
  have k1 := Lib.hid (blk_new1 w (decBox x) 24 [.int .i64 0, .int .i64 0])
  have HX := Lib.hid hx; have HZ := Lib.hid hz
  have hxl := hx.lt
  obtain ⟨q, hq⟩ : ∃ q, q = Int.tdiv z T18 := ⟨_, rfl⟩
  obtain ⟨r, hr⟩ : ∃ r, r = Int.tmod z T18 := ⟨_, rfl⟩
  have HB := Lib.hid (show i64B q = false ∧ (-maxI ≤ r ∧ r ≤ maxI) by rw [hq, hr]; exact ⟨decide_eq_false hf, tmod_b z⟩)
  have HQ := Lib.hid hq; have HRR := Lib.hid hr
  clear hx hz hq hr hf
  go_enter Tryz.func104, Tryz.ntmps104
  go_wp2_with (fail)
  go_at_call 139
  refine (dIsNil x _).mono ?_
  rintro e w1 ⟨rfl, hE⟩
  have c0 : w1.cell? ⟨w.heap.size, 0, none⟩ = some (.pointer (some ⟨x, 0, none⟩)) := ((k0.out.ext hE).cell 0).trans rfl
  have K1 := Lib.hid (k1.out.ext hE)
  have HE := Lib.hid ((ext2 _ _ _).trans' hE)
  have sz := HE.out.size; have l0 := cell_lt c0
  clear hE
  go_wp2_with (fail)
  go_at_call 141
  refine (dBigInt x z _ (HX.out.ext (HE.out.trans' (ext1 _ _))) HZ.out).mono ?_
  rintro e w2 ⟨p2, rfl, hB2, hE2⟩
  have HB2 := Lib.hid hB2
  have HE2 := Lib.hid hE2
  clear hE2 hB2 c0 l0
  go_wp2_with (fail)
  go_at_call 87
  refine (iUnit _).mono ?_
  rintro e w3 ⟨p3, rfl, hB3, hE3⟩
  have HB3 := Lib.hid hB3
  have HE3 := Lib.hid hE3
  have s2 := HE2.out.size; have s3 := HE3.out.size
  have lq : w1.heap.size < w2.heap.size := by simp at s2; omega
  have m2 := HB2.out.1; have m3 := HB3.out.1
  clear hE3 hB3
  go_wp2_with (fail)
  go_at_call 140
  have E13 := (HE2.out.trans' HE3.out).trans' (ext1 w3 (.cells #[.bool false, .slice none 0 0] 126))
  have l2 := HB2.out.k.lt; have l3 := HB3.out.k.lt
  have m2' : w1.heap.size < p2 := by have : w1.heap.size + 1 ≤ p2 := by simpa using m2
                                     omega
  refine (vQuoRem18G w1.heap.size w3.heap.size p2 p3 z _ (((HB2.out.k).ext (HE3.out.trans' (ext1 _ _))).at_) (((HB3.out.k).ext (ext1 _ _)).at_) HZ.out ((blk_new0 w1 126 [.bool false, .slice none 0 0]).ext E13) (blk_new0 w3 126 [.bool false, .slice none 0 0]) (by omega) (by omega) (by omega) (by omega) (by omega)).mono ?_
  rw [← HQ.out, ← HRR.out]
  rintro e w4 ⟨rfl, hq4, hr4, ho⟩
  have k1l := K1.out.lt
  have kne : w.heap.size + 1 ≠ w1.heap.size := by omega
  have k1' := ho.blk (K1.out.ext ((ext1 _ _).trans' E13)) kne (by omega)
  have d0 : w4.cell? ⟨w.heap.size + 1, 0, none⟩ = some (.int .i64 0) := (k1'.cell 0).trans rfl
  have d1 : w4.cell? ⟨w.heap.size + 1, 1, none⟩ = some (.int .i64 0) := (k1'.cell 1).trans rfl
  have f0 := k1'.frozen 0; have f1 := k1'.frozen 1
  have HEW := Lib.hid (Only2.ext (HE.out.trans' ((ext1 _ _).trans' E13)) ho (by omega) (by omega))
  have HI := Lib.hid (intIsInt64G (.pointer (some ⟨w1.heap.size, 0, none⟩)) q w4 ⟨_, rfl, hq4⟩)
  rw [HB.out.1] at HI
  clear E13 l2 l3 m2 m2' m3 hq4 hr4 ho k1l kne k1'
  go_wp2_with (fail)
  go_at_call 142
  refine HI.out.mono ?_
  rintro e w5 ⟨rfl, h5⟩
  obtain rfl := h5
  go_wp2
  exact bodyPost_ret (v := .tuple #[.agg #[.int .i64 0, .int .i64 0], .bool false]) (by simp [results, Tryz.results104, go_sem, d0, d1]) rfl ⟨rfl, Only.ext HEW.out (((Only.refl _ _).set_ 0 _).set_ 1 _) (by omega)⟩
end Go.Proofs.YtcoffndnfaemoaaGreatDoor

namespace Go.Proofs.YtcoffndnfaemoaaGreatDoor
open Go Go.RowKit

set_option maxRecDepth 100000 in
set_option maxHeartbeats 1000000 in
theorem iBackOneT (s : ByteArray) (x : Nat) (z : Int) (w : World) (hx : BigK w x z) (hz : Small z) (hf : FitW z) :
    Calls Tryz.prog 81 #[dcV s x] w (RetE (.tuple #[dpV s (Int.tdiv z T18) (Int.tmod z T18), .bool true]) w) := by
  have k0 := Lib.hid ((blk_new0 w 118 [.string s, .pointer (some ⟨x, 0, none⟩)]).alloc (.cells #[.string ByteArray.empty, .int .i64 0, .int .i64 0] 48))
  have k1 := Lib.hid (blk_new1 w (dcBox s x) 48 [.string ByteArray.empty, .int .i64 0, .int .i64 0])
  have H := Lib.hid (iBackDecT x z _ (hx.ext (ext2 w (dcBox s x) (.cells #[.string ByteArray.empty, .int .i64 0, .int .i64 0] 48))) hz hf)
  obtain ⟨q, hq⟩ : ∃ q, q = Int.tdiv z T18 := ⟨_, rfl⟩
  obtain ⟨r, hr⟩ : ∃ r, r = Int.tmod z T18 := ⟨_, rfl⟩
  rw [← hq, ← hr] at H
  rw [← hq, ← hr]
  clear hx hz hq hr hf
  go_enter Tryz.func81, Tryz.ntmps81
  go_wp2_with (fail)
  go_at_call 104
  refine H.out.mono ?_
  rintro e w1 ⟨rfl, hE⟩
  have c0 : w1.cell? ⟨w.heap.size, 0, none⟩ = some (.string s) := ((k0.out.ext hE).cell 0).trans rfl
  have k := k1.out.ext hE
  have d0 : w1.cell? ⟨w.heap.size + 1, 0, none⟩ = some (.string ByteArray.empty) := (k.cell 0).trans rfl
  have d1 : w1.cell? ⟨w.heap.size + 1, 1, none⟩ = some (.int .i64 0) := (k.cell 1).trans rfl
  have d2 : w1.cell? ⟨w.heap.size + 1, 2, none⟩ = some (.int .i64 0) := (k.cell 2).trans rfl
  have f0 := k.frozen 0; have f1 := k.frozen 1; have f2 := k.frozen 2
  have l1 := k.lt; have l0 := cell_lt c0
  have HE := Lib.hid ((ext2 _ _ _).trans' hE)
  have kf := (((k.set_ 0 (.string s)).set_ 1 (.int .i64 q)).set_ 2 (.int .i64 r)).alloc (.cells #[.int .i64 q, .int .i64 r] 24)
  have HF0 := Lib.hid (kf.cell 0); have HF1 := Lib.hid (kf.cell 1); have HF2 := Lib.hid (kf.cell 2)
  clear hE k kf
  go_wp2
  have e0 := HF0.out; have e1 := HF1.out; have e2 := HF2.out
  simp only [List.set_cons_zero, List.set_cons_succ] at e0 e1 e2
  exact bodyPost_ret (v := .tuple #[dpV s q r, .bool true]) (by simp [results, Tryz.results81, go_sem, e0, e1, e2]) rfl ⟨rfl, (Only.ext HE.out ((((Only.refl _ _).set_ 0 _).set_ 1 _).set_ 2 _) (by omega)).trans' (ext1 _ _)⟩

set_option maxRecDepth 100000 in
set_option maxHeartbeats 1000000 in
theorem iBackOneN (s : ByteArray) (x : Nat) (z : Int) (w : World) (hx : BigK w x z) (hz : Small z) (hf : ¬ FitW z) :
    Calls Tryz.prog 81 #[dcV s x] w (RetE (.tuple #[dpV s 0 0, .bool false]) w) := by
  have k0 := Lib.hid ((blk_new0 w 118 [.string s, .pointer (some ⟨x, 0, none⟩)]).alloc (.cells #[.string ByteArray.empty, .int .i64 0, .int .i64 0] 48))
  have k1 := Lib.hid (blk_new1 w (dcBox s x) 48 [.string ByteArray.empty, .int .i64 0, .int .i64 0])
  have H := Lib.hid (iBackDecN x z _ (hx.ext (ext2 w (dcBox s x) (.cells #[.string ByteArray.empty, .int .i64 0, .int .i64 0] 48))) hz hf)
  clear hx hz hf
  go_enter Tryz.func81, Tryz.ntmps81
  go_wp2_with (fail)
  go_at_call 104
  refine H.out.mono ?_
  rintro e w1 ⟨rfl, hE⟩
  have c0 : w1.cell? ⟨w.heap.size, 0, none⟩ = some (.string s) := ((k0.out.ext hE).cell 0).trans rfl
  have k := k1.out.ext hE
  have d0 : w1.cell? ⟨w.heap.size + 1, 0, none⟩ = some (.string ByteArray.empty) := (k.cell 0).trans rfl
  have d1 : w1.cell? ⟨w.heap.size + 1, 1, none⟩ = some (.int .i64 0) := (k.cell 1).trans rfl
  have d2 : w1.cell? ⟨w.heap.size + 1, 2, none⟩ = some (.int .i64 0) := (k.cell 2).trans rfl
  have f0 := k.frozen 0; have f1 := k.frozen 1; have f2 := k.frozen 2
  have l1 := k.lt; have l0 := cell_lt c0
  have HE := Lib.hid ((ext2 _ _ _).trans' hE)
  have kf := (((k.set_ 0 (.string s)).set_ 1 (.int .i64 0)).set_ 2 (.int .i64 0)).alloc (.cells #[.int .i64 0, .int .i64 0] 24)
  have HF0 := Lib.hid (kf.cell 0); have HF1 := Lib.hid (kf.cell 1); have HF2 := Lib.hid (kf.cell 2)
  clear hE k kf
  go_wp2
  have e0 := HF0.out; have e1 := HF1.out; have e2 := HF2.out
  simp only [List.set_cons_zero, List.set_cons_succ] at e0 e1 e2
  exact bodyPost_ret (v := .tuple #[dpV s 0 0, .bool false]) (by simp [results, Tryz.results81, go_sem, e0, e1, e2]) rfl ⟨rfl, (Only.ext HE.out ((((Only.refl _ _).set_ 0 _).set_ 1 _).set_ 2 _) (by omega)).trans' (ext1 _ _)⟩

set_option maxRecDepth 100000 in
set_option maxHeartbeats 1000000 in
theorem iBackDecsT (A : Option Addr) (n c : Nat) (l : List Co) (w : World) (hl : l.length = n) (hn : n ≤ 1000000) (h : DCoinsAt w A l) (hz : ∀ x ∈ l, Small x.z ∧ FitW x.z) :
    Calls Tryz.prog 46 #[.slice A n c] w (RetDBack (l.map fun x => dback x.val) w) := by
  obtain ⟨i0, hi, hz0, hz1, hz2⟩ := info_parts infoDPlan
  have HL := Lib.hid hl; have HP := Lib.hid h; have HZ := Lib.hid hz
  clear hl h hz
  go_enter Tryz.func46, Tryz.ntmps46
  go_wp2
  go_loopw [4, 11] (fun v i wr => ∃ (k : Nat) (cs : List DP), k ≤ n ∧ i = .int .i64 k ∧ cs.length = k ∧ cs = (l.map fun x => dback x.val).take k ∧ DPlainOwn wr w.heap.size v cs ∧ Ext w wr) (fun _ i _ => n - (intOf i).toNat)
  case atStart => exact ⟨0, [], Nat.zero_le _, rfl, rfl, rfl, DPlainOwn.nil _ _, Ext.refl _⟩
  case round =>
    obtain ⟨k, cs, hk, rfl, hcl, hcv, hown, hE⟩ := hrel
    have HC := Lib.hid hcl; have HV := Lib.hid hcv; have HO := Lib.hid hown; have HE := Lib.hid hE
    clear hcl hcv hown hE
    by_cases hlt : k < n
    · have hkl : k < l.length := by rw [HL.out]; exact hlt
      obtain ⟨s, hs⟩ : ∃ s, s = l[k].s := ⟨_, rfl⟩
      obtain ⟨b, hb⟩ : ∃ b, b = l[k].b := ⟨_, rfl⟩
      obtain ⟨z, hzz⟩ : ∃ z, z = l[k].z := ⟨_, rfl⟩
      obtain ⟨g, o, hA, hc⟩ := HP.out.1 (by intro e; have := congrArg List.length e; simp at this; rw [this] at hkl; simp at hkl)
      subst hA
      have hck := hc k (by simpa using hkl)
      have cs0 : wr.cell? ⟨g, o + k * 2, none⟩ = some (.string s) := HE.out.cell' (by rw [hck.1, hs]; simp [Co.pair])
      have cs1 : wr.cell? ⟨g, o + k * 2 + 1, none⟩ = some (.pointer (some ⟨b, 0, none⟩)) := HE.out.cell' (by rw [hck.2, hb]; simp [Co.pair])
      have HB := Lib.hid (show BigK wr b z by rw [hb, hzz]; exact (HP.out.2 _ (List.getElem_mem hkl)).ext HE.out)
      have hz0' : Small z ∧ FitW z := by rw [hzz]; exact HZ.out _ (List.getElem_mem _)
      have HZB := Lib.hid hz0'
      obtain ⟨x, hxx⟩ : ∃ x, x = Int.tdiv z T18 := ⟨_, rfl⟩
      obtain ⟨y, hyy⟩ : ∃ y, y = Int.tmod z T18 := ⟨_, rfl⟩
      have HS := Lib.hid (show dback (l[k]).val = (s, x, y) by rw [hxx, hyy, hs, hzz]; rfl)
      have HXX := Lib.hid hxx; have HYY := Lib.hid hyy; clear hs hzz hck hc hb hz0' hxx hyy
      go_wp2_with (first | (go_at_call 81; refine (iBackOneT s b z _ (by exact HB.out.ext (ext1 _ _)) HZB.out.1 HZB.out.2).mono ?_; rw [← HXX.out, ← HYY.out]; rintro e w1 ⟨rfl, hE1⟩; have HE1 := Lib.hid ((ext1 _ _).trans' hE1); clear hE1) | (at_builtin; refine wpList_append_own_at _ rfl (.tmp 22) (.tmp 24) 22 rfl w.heap.size 48 i0 _ 3 32 Tryz.underlying22 hi hz0 hz1 hz2 rfl (by decide) u4 cs.length (flat3 (cs.map dplain)) rfl (owns_ext (owns_ext HO.out HE1.out) (ext2 _ _ _)) ⟨w1.heap.size + 1, 0, none⟩ 1 1 [.string s, .int .i64 x, .int .i64 y] rfl rfl (three_new1 _ _ _ _ _ _) (three_one _ _ _ rfl rfl rfl) (by rw [HC.out]; unfold maxLen; omega) (by rw [HC.out]; omega) (by have := HE.out.size; have := HE1.out.size; simp; omega) ?_; intro v' w2 hown hgrow _ _; have R := Lib.hid (dplain_push ((HO.out.ext HE1.out).ext (ext2 _ (.cells #[.string s, .int .i64 x, .int .i64 y] 48) (.cells #[.string s, .int .i64 x, .int .i64 y] 48))) ((HE.out.trans' HE1.out).trans' (ext2 _ _ _)) hown hgrow); clear hown hgrow))
      go_roundw
      case rel =>
        refine ⟨k + 1, cs ++ [(s, x, y)], by omega, by go_num, by simp [HC.out], ?_, R.out.1, R.out.2⟩
        rw [HV.out, List.take_succ_eq_append_getElem (by simpa using hkl), List.getElem_map, HS.out]
      case measure => simp [intOf]; omega
    · obtain rfl : k = n := by omega
      go_wp2
      go_ret2
      have hv : cs = l.map fun x => dback x.val := by rw [HV.out, List.take_of_length_le (by simp [HL.out])]
      exact ⟨_, rfl, hv ▸ HO.out, HE.out⟩

set_option maxRecDepth 100000 in
set_option maxHeartbeats 1000000 in
theorem iBackDecsN (A : Option Addr) (n c : Nat) (l : List Co) (w : World) (hl : l.length = n) (hn : n ≤ 1000000) (h : DCoinsAt w A l) (hz : ∀ x ∈ l, Small x.z) (hb : ∃ x ∈ l, ¬ FitW x.z) :
    Calls Tryz.prog 46 #[.slice A n c] w (RetE (.tuple #[.slice none 0 0, .bool false]) w) := by
  obtain ⟨i0, hi, hz0, hz1, hz2⟩ := info_parts infoDPlan
  have HL := Lib.hid hl; have HP := Lib.hid h; have HZ := Lib.hid hz; have HBAD := Lib.hid hb
  clear hl h hz hb
  go_enter Tryz.func46, Tryz.ntmps46
  go_wp2
  go_loopw [4, 11] (fun v i wr => ∃ (k : Nat) (cs : List DP), k ≤ n ∧ i = .int .i64 k ∧ cs.length = k ∧ cs = (l.map fun x => dback x.val).take k ∧ DPlainOwn wr w.heap.size v cs ∧ Ext w wr ∧ ∀ j (hj : j < l.length), j < k → FitW l[j].z) (fun _ i _ => n - (intOf i).toNat)
  case atStart => exact ⟨0, [], Nat.zero_le _, rfl, rfl, rfl, DPlainOwn.nil _ _, Ext.refl _, fun j _ h => by omega⟩
  case round =>
    obtain ⟨k, cs, hk, rfl, hcl, hcv, hown, hE, hall⟩ := hrel
    have HC := Lib.hid hcl; have HV := Lib.hid hcv; have HO := Lib.hid hown; have HE := Lib.hid hE; have HALL := Lib.hid hall
    clear hcl hcv hown hE hall
    by_cases hlt : k < n
    · have hkl : k < l.length := by rw [HL.out]; exact hlt
      obtain ⟨s, hs⟩ : ∃ s, s = l[k].s := ⟨_, rfl⟩
      obtain ⟨b, hb⟩ : ∃ b, b = l[k].b := ⟨_, rfl⟩
      obtain ⟨z, hzz⟩ : ∃ z, z = l[k].z := ⟨_, rfl⟩
      obtain ⟨g, o, hA, hc⟩ := HP.out.1 (by intro e; have := congrArg List.length e; simp at this; rw [this] at hkl; simp at hkl)
      subst hA
      have hck := hc k (by simpa using hkl)
      have cs0 : wr.cell? ⟨g, o + k * 2, none⟩ = some (.string s) := HE.out.cell' (by rw [hck.1, hs]; simp [Co.pair])
      have cs1 : wr.cell? ⟨g, o + k * 2 + 1, none⟩ = some (.pointer (some ⟨b, 0, none⟩)) := HE.out.cell' (by rw [hck.2, hb]; simp [Co.pair])
      have HB := Lib.hid (show BigK wr b z by rw [hb, hzz]; exact (HP.out.2 _ (List.getElem_mem hkl)).ext HE.out)
      have hz0' : Small z := by rw [hzz]; exact HZ.out _ (List.getElem_mem _)
      have HZB := Lib.hid hz0'
      obtain ⟨x, hxx⟩ : ∃ x, x = Int.tdiv z T18 := ⟨_, rfl⟩
      obtain ⟨y, hyy⟩ : ∃ y, y = Int.tmod z T18 := ⟨_, rfl⟩
      have HS := Lib.hid (show dback (l[k]).val = (s, x, y) by rw [hxx, hyy, hs, hzz]; rfl)
      have HXX := Lib.hid hxx; have HYY := Lib.hid hyy; have HZZ := Lib.hid hzz; clear hs hzz hck hc hb hz0' hxx hyy
      by_cases hfit : FitW z
      rotate_left
      · go_wp2_with (fail)
        go_at_call 81
        refine (iBackOneN s b z _ (by exact HB.out.ext (ext1 _ _)) HZB.out hfit).mono ?_
        rintro e w1 ⟨rfl, hE1⟩
        have HE1 := Lib.hid ((ext1 _ _).trans' hE1); clear hE1 hfit
        go_wp2
        go_ret2
        exact ⟨rfl, (HE.out.trans' HE1.out).trans' (ext1 _ _)⟩
      have HFIT := Lib.hid hfit; clear hfit
      go_wp2_with (first | (go_at_call 81; refine (iBackOneT s b z _ (by exact HB.out.ext (ext1 _ _)) HZB.out HFIT.out).mono ?_; rw [← HXX.out, ← HYY.out]; rintro e w1 ⟨rfl, hE1⟩; have HE1 := Lib.hid ((ext1 _ _).trans' hE1); clear hE1) | (at_builtin; refine wpList_append_own_at _ rfl (.tmp 22) (.tmp 24) 22 rfl w.heap.size 48 i0 _ 3 32 Tryz.underlying22 hi hz0 hz1 hz2 rfl (by decide) u4 cs.length (flat3 (cs.map dplain)) rfl (owns_ext (owns_ext HO.out HE1.out) (ext2 _ _ _)) ⟨w1.heap.size + 1, 0, none⟩ 1 1 [.string s, .int .i64 x, .int .i64 y] rfl rfl (three_new1 _ _ _ _ _ _) (three_one _ _ _ rfl rfl rfl) (by rw [HC.out]; unfold maxLen; omega) (by rw [HC.out]; omega) (by have := HE.out.size; have := HE1.out.size; simp; omega) ?_; intro v' w2 hown hgrow _ _; have R := Lib.hid (dplain_push ((HO.out.ext HE1.out).ext (ext2 _ (.cells #[.string s, .int .i64 x, .int .i64 y] 48) (.cells #[.string s, .int .i64 x, .int .i64 y] 48))) ((HE.out.trans' HE1.out).trans' (ext2 _ _ _)) hown hgrow); clear hown hgrow))
      go_roundw
      case rel =>
        refine ⟨k + 1, cs ++ [(s, x, y)], by omega, by go_num, by simp [HC.out], ?_, R.out.1, R.out.2, fun j hj hjk => ?_⟩
        · rw [HV.out, List.take_succ_eq_append_getElem (by simpa using hkl), List.getElem_map, HS.out]
        · by_cases e : j = k
          · subst e; rw [← HZZ.out]; exact HFIT.out
          · exact HALL.out j hj (by omega)
      case measure => simp [intOf]; omega
    · obtain rfl : k = n := by omega
      exfalso
      obtain ⟨x, hx, hn⟩ := HBAD.out
      obtain ⟨j, hj, rfl⟩ := List.mem_iff_getElem.1 hx
      exact hn (HALL.out j hj (by rw [HL.out] at hj; exact hj))
end Go.Proofs.YtcoffndnfaemoaaGreatDoor
