/-
  The specification's numbers of 256 bits: over (bit by bit).
  The specification's DeciParts, for amounts whose whole part fits.
  The laws' deciIsAll, for a list that fits.
  The specification's DeciSorted: insertion into a row of records of six cells.
  The specification's DeciAll: the sums by names.
  The specification's DeciApart and the laws' deciApart: the names ascend strictly.
-/
import Derived.Test.YtcoffndnfaemoaaGreatDoorGT
import Derived.Deep.RegionLaw
import Derived.Deep.Cut
import Derived.Laws.Bits64b
import Derived.Test.YtcoffndnfaemoaaGreatDoorGR
import Derived.Test.YtcoffndnfaemoaaGreatDoorDOne
import Derived.IntWalk
import Derived.Test.YtcoffndnfaemoaaGreatDoorGY
import Derived.Test.YtcoffndnfaemoaaGreatDoorGV
import Derived.Deep.RegionLawGrows
import Derived.Deep.RegionHeld3
import Derived.Test.YtcoffndnfaemoaaGreatDoorGW
import Derived.Deep.DeepCutAuto
import Derived.Test.YtcoffndnfaemoaaGreatDoorGQ
import Derived.BigQuiet
namespace Go.Proofs.YtcoffndnfaemoaaGreatDoor
open Go Go.RowKit

theorem b64_two (j : Nat) : B64 ^ j = 2 ^ (64 * j) := by rw [show B64 = 2 ^ 64 from rfl, ← Nat.pow_mul]
theorem over_bit (M j s : Nat) (hs : s < 64) : D M j % B64 / 2 ^ s % 2 = M / 2 ^ (64 * j + s) % 2 := by
  have e : D M j / 2 ^ s = M / 2 ^ (64 * j + s) := by rw [D_pow, b64_two, Nat.div_div_eq_div_mul, ← Nat.pow_add]
  rw [← e]
  have h := Nat.testBit_mod_two_pow (D M j) 64 s
  rw [Nat.testBit_eq_decide_div_mod_eq, Nat.testBit_eq_decide_div_mod_eq] at h
  rw [show B64 = 2 ^ 64 from rfl]
  simp only [hs, decide_true, Bool.true_and, decide_eq_decide] at h
  omega
theorem over_low (r b : Nat) (hb : b < 2) : ((r + r) % B64) ||| b = (r + r + b) % B64 ∧ ∀ j, D (r + r + b) (j + 1) = D (r + r) (j + 1) := by
  constructor
  · have e : (r + r) % B64 = 2 ^ 1 * (r % 2 ^ 63) := by unfold B64; omega
    rw [e, ← Nat.two_pow_add_eq_or_of_lt (i := 1) (b := b) (by omega)]
    unfold B64; omega
  · intro j
    rw [D_pow, D_pow, Nat.pow_succ, Nat.mul_comm, ← Nat.div_div_eq_div_mul, ← Nat.div_div_eq_div_mul]
    congr 1
    unfold B64; omega
theorem over_high (q j s : Nat) (hs : s < 64) : D (q * 2 ^ (64 * j + s + 1)) j % B64 ||| 2 ^ s = D (q * 2 ^ (64 * j + s + 1) + 2 ^ (64 * j + s)) j % B64 ∧ ∀ i, i ≠ j → D (q * 2 ^ (64 * j + s + 1) + 2 ^ (64 * j + s)) i % B64 = D (q * 2 ^ (64 * j + s + 1)) i % B64 := by
  have e0 : 2 ^ (64 * j + s) = 2 ^ s * B64 ^ j := by rw [b64_two, ← Nat.pow_add, Nat.add_comm]
  have e1 : q * 2 ^ (64 * j + s + 1) = (q * 2 ^ (s + 1)) * B64 ^ j := by rw [b64_two, Nat.mul_assoc, ← Nat.pow_add]; congr 2; omega
  have ea : D (q * 2 ^ (64 * j + s + 1)) j = q * 2 ^ (s + 1) := by
    have := D_add 0 (q * 2 ^ (s + 1)) j
    rw [Nat.zero_add, D_zero, Nat.zero_add] at this
    rw [e1, this]
  have eb : D (q * 2 ^ (64 * j + s + 1) + 2 ^ (64 * j + s)) j = q * 2 ^ (s + 1) + 2 ^ s := by rw [e0, D_add, ea]
  have e64 : B64 = 2 ^ (s + 1) * 2 ^ (63 - s) := by rw [← Nat.pow_add, show s + 1 + (63 - s) = 64 by omega]; rfl
  have h2 : 2 ^ (s + 1) = 2 * 2 ^ s := by rw [Nat.pow_succ, Nat.mul_comm]
  have hp : 0 < 2 ^ s := Nat.pow_pos (by omega)
  have hmod : ∀ x, x < 2 ^ (s + 1) → (q * 2 ^ (s + 1) + x) % B64 = 2 ^ (s + 1) * (q % 2 ^ (63 - s)) + x := by
    intro x hx
    rw [Nat.mul_comm q, e64, Nat.mod_mul, Nat.mul_add_mod, Nat.mod_eq_of_lt hx, Nat.mul_add_div (by omega), Nat.div_eq_of_lt hx]
    rw [show q + 0 = q from rfl, Nat.add_comm]
  refine ⟨?_, fun i hi => ?_⟩
  · rw [ea, eb, hmod (2 ^ s) (by omega)]
    have h0 := hmod 0 (by omega)
    rw [Nat.add_zero, Nat.add_zero (2 ^ (s + 1) * _)] at h0
    rw [h0, ← Nat.two_pow_add_eq_or_of_lt (i := s + 1) (b := 2 ^ s) (by omega)]
  · rcases Nat.lt_or_gt_of_ne hi with h | h
    · rw [e0, D_low _ _ _ _ h]
    · have hd : ∀ y, D y i = D y j / B64 ^ (i - j) := fun y => by
        rw [D_pow, D_pow, Nat.div_div_eq_div_mul, ← Nat.pow_add, show j + (i - j) = i by omega]
      rw [hd, hd, ea, eb, show B64 ^ (i - j) = B64 * B64 ^ (i - j - 1) by rw [Nat.mul_comm, ← Nat.pow_succ, show (i - j - 1).succ = i - j by omega], ← Nat.div_div_eq_div_mul, ← Nat.div_div_eq_div_mul]
      congr 2
      rw [e64, ← Nat.div_div_eq_div_mul, ← Nat.div_div_eq_div_mul]
      congr 1
      rw [Nat.mul_comm q, Nat.mul_add_div (by omega), Nat.div_eq_of_lt (by omega : 2 ^ s < 2 ^ (s + 1)), Nat.mul_div_cancel_left _ (by omega), Nat.add_zero]
theorem over_step (M N m : Nat) (hN : 0 < N) (q r b : Nat) (hq : q = M / 2 ^ (m + 1) / N) (hr : r = M / 2 ^ (m + 1) % N) (hb : b = M / 2 ^ m % 2) :
    (r + r + b < N → M / 2 ^ m / N = 2 * q ∧ M / 2 ^ m % N = r + r + b) ∧ (¬ r + r + b < N → M / 2 ^ m / N = 2 * q + 1 ∧ M / 2 ^ m % N = r + r + b - N) ∧ r < N := by
  have e : M / 2 ^ (m + 1) = M / 2 ^ m / 2 := by rw [Nat.pow_succ, ← Nat.div_div_eq_div_mul]
  rw [e] at hq hr
  have hA : M / 2 ^ m = 2 * (M / 2 ^ m / 2) + b := by omega
  have hB := Nat.div_add_mod (M / 2 ^ m / 2) N
  rw [← hq, ← hr] at hB
  have hrN : r < N := by rw [hr]; exact Nat.mod_lt _ hN
  generalize M / 2 ^ m / 2 = A at *
  generalize M / 2 ^ m = B at *
  have hm : N * (2 * q) = 2 * (N * q) := by rw [Nat.mul_left_comm]
  refine ⟨fun h => ?_, fun h => ?_, hrN⟩
  · have : B = (r + r + b) + N * (2 * q) := by omega
    rw [this, Nat.add_mul_div_left _ _ hN, Nat.add_mul_mod_self_left, Nat.div_eq_of_lt h, Nat.mod_eq_of_lt h]
    omega
  · have hm2 : N * (2 * q + 1) = 2 * (N * q) + N := by rw [Nat.mul_add, hm, Nat.mul_one]
    have : B = (r + r + b - N) + N * (2 * q + 1) := by omega
    have h2 : r + r + b - N < N := by omega
    rw [this, Nat.add_mul_div_left _ _ hN, Nat.add_mul_mod_self_left, Nat.div_eq_of_lt h2, Nat.mod_eq_of_lt h2]
    omega
theorem over_q (q m : Nat) : 2 * q * 2 ^ m = q * 2 ^ (m + 1) ∧ (2 * q + 1) * 2 ^ m = q * 2 ^ (m + 1) + 2 ^ m := by
  have : 2 * q * 2 ^ m = q * 2 ^ (m + 1) := by rw [Nat.pow_succ, Nat.mul_comm 2 q, Nat.mul_assoc, Nat.mul_comm 2]
  refine ⟨this, ?_⟩
  rw [Nat.add_mul, this, Nat.one_mul]

/-- What over hands back. -/
def RetPair (a b : Value) (w : World) : Ending → World → Prop := fun e w' => e = .returned (.tuple #[a, b]) ∧ Ext w w'

theorem blk_at {w : World} {n : Nat} {t : TypeId} (cs : List Value) (h : w.heap.size = n) : Blk (w.alloc (.cells cs.toArray t)) n t cs := h ▸ Blk.new w t cs
theorem Blk.far {w : World} {g g' : Nat} {t : TypeId} {cs : List Value} (h : Blk w g t cs) (hne : g ≠ g') (i : Nat) (u : Value) : Blk (w.setCell ⟨g', i, none⟩ u) g t cs := ((Only.refl g' w).set_ i u).block' h hne
abbrev zs : List Value := [.int .u64 0, .int .u64 0, .int .u64 0, .int .u64 0]
abbrev dws (M : Nat) : List Value := [dw M 0, dw M 1, dw M 2, dw M 3]
/-- The six variables of over. -/
def Ov6 (n M N Q R : Nat) (w : World) : Prop := Blk w n 37 (dws M) ∧ Blk w (n + 1) 37 (dws N) ∧ Blk w (n + 2) 37 zs ∧ Blk w (n + 3) 37 zs ∧ Blk w (n + 4) 37 (dws Q) ∧ Blk w (n + 5) 37 (dws R)
theorem Ov6.ext {n M N Q R : Nat} {w w' : World} (h : Ov6 n M N Q R w) (e : Ext w w') : Ov6 n M N Q R w' := ⟨h.1.ext e, h.2.1.ext e, h.2.2.1.ext e, h.2.2.2.1.ext e, h.2.2.2.2.1.ext e, h.2.2.2.2.2.ext e⟩
theorem set4 {w : World} {g : Nat} {t : TypeId} {a b c d : Value} (h : Blk w g t [a, b, c, d]) (a' b' c' d' : Value) : Blk ((((w.setCell ⟨g, 0, none⟩ a').setCell ⟨g, 1, none⟩ b').setCell ⟨g, 2, none⟩ c').setCell ⟨g, 3, none⟩ d') g t [a', b', c', d'] := (((h.set_ 0 a').set_ 1 b').set_ 2 c').set_ 3 d'
theorem only4 (g : Nat) (w : World) (a' b' c' d' : Value) : Only g w ((((w.setCell ⟨g, 0, none⟩ a').setCell ⟨g, 1, none⟩ b').setCell ⟨g, 2, none⟩ c').setCell ⟨g, 3, none⟩ d') := ((((Only.refl g w).set_ 0 a').set_ 1 b').set_ 2 c').set_ 3 d'
/-- The last variable is written. -/
theorem Ov6.putR {n M N Q R R' : Nat} {w w' : World} (h : Ov6 n M N Q R w) (o : Only (n + 5) w w') (k : Blk w' (n + 5) 37 (dws R')) : Ov6 n M N Q R' w' :=
  ⟨o.block' h.1 (by omega), o.block' h.2.1 (by omega), o.block' h.2.2.1 (by omega), o.block' h.2.2.2.1 (by omega), o.block' h.2.2.2.2.1 (by omega), k⟩
theorem Ov6.putQ {n M N Q R Q' : Nat} {w w' : World} (h : Ov6 n M N Q R w) (o : Only (n + 4) w w') (k : Blk w' (n + 4) 37 (dws Q')) : Ov6 n M N Q' R w' :=
  ⟨o.block' h.1 (by omega), o.block' h.2.1 (by omega), o.block' h.2.2.1 (by omega), o.block' h.2.2.2.1 (by omega), k, o.block' h.2.2.2.2.2 (by omega)⟩
theorem over_or {x y0 R b s : Nat} (hx : x / 2 ^ s % 2 = b) (hs : s < 64) (hxB : x < B64) (hy : y0 = (R + R) % B64) : bits .or .u64 (y0 : Int) (bits .and .u64 ((x : Int) / 2 ^ min s 64) 1) = (((R + R + b) % B64 : Nat) : Int) := by
  have e1 : (x : Int) / 2 ^ min s 64 = ((x / 2 ^ s : Nat) : Int) := by rw [Nat.min_eq_left (by omega)]; simp
  have h1 : x / 2 ^ s < B64 := Nat.lt_of_le_of_lt (Nat.div_le_self _ _) hxB
  have e2 : bits .and .u64 ((x / 2 ^ s : Nat) : Int) 1 = (b : Int) := by
    have h := bits_and_u64_nat (x / 2 ^ s) 1 (by unfold B64 at h1; omega) (by omega)
    rw [show ((1 : Nat) : Int) = 1 from rfl] at h
    rw [h, Nat.and_one_is_mod, hx]
  have hb : b < 2 := by omega
  rw [e1, e2, bits_or_u64_nat _ _ (by rw [hy]; unfold B64; omega) (by omega), hy, (over_low R b hb).1]
theorem over_set {q j s : Nat} (hj : j < 4) (hs : s < 64) : (dws (q * 2 ^ (64 * j + s + 1))).set j (.int .u64 ((D (q * 2 ^ (64 * j + s + 1)) j % B64 ||| 2 ^ s : Nat) : Int)) = dws (q * 2 ^ (64 * j + s + 1) + 2 ^ (64 * j + s)) := by
  obtain ⟨h1, h2⟩ := over_high q j s hs
  rw [h1]
  have k : ∀ i, i ≠ j → dw (q * 2 ^ (64 * j + s + 1) + 2 ^ (64 * j + s)) i = dw (q * 2 ^ (64 * j + s + 1)) i := fun i hi => by unfold dw; rw [h2 i hi]
  rcases (by omega : j = 0 ∨ j = 1 ∨ j = 2 ∨ j = 3) with rfl | rfl | rfl | rfl
  · have k1 := k 1 (by decide); have k2 := k 2 (by decide); have k3 := k 3 (by decide)
    show [_, _, _, _] = [_, _, _, _]; rw [← k1, ← k2, ← k3]
  · have k1 := k 0 (by decide); have k2 := k 2 (by decide); have k3 := k 3 (by decide)
    show [_, _, _, _] = [_, _, _, _]; rw [← k1, ← k2, ← k3]
  · have k1 := k 0 (by decide); have k2 := k 1 (by decide); have k3 := k 3 (by decide)
    show [_, _, _, _] = [_, _, _, _]; rw [← k1, ← k2, ← k3]
  · have k1 := k 0 (by decide); have k2 := k 1 (by decide); have k3 := k 2 (by decide)
    show [_, _, _, _] = [_, _, _, _]; rw [← k1, ← k2, ← k3]
theorem over_shl {x j s Q2 : Nat} (hx : x = D Q2 j % B64) (hs : s < 64) : bits .or .u64 (x : Int) (IntKind.u64.wrap (2 ^ min s 64)) = ((D Q2 j % B64 ||| 2 ^ s : Nat) : Int) := by
  have h1 : 2 ^ s < 18446744073709551616 := Nat.pow_lt_pow_right (by omega) hs
  have e : IntKind.u64.wrap (2 ^ min s 64) = ((2 ^ s : Nat) : Int) := by
    rw [Nat.min_eq_left (by omega), IntKind.wrap_u64, show (2 : Int) ^ s = ((2 ^ s : Nat) : Int) by simp]
    generalize 2 ^ s = p at h1
    omega
  rw [e, bits_or_u64_nat _ _ (by rw [hx]; unfold B64; omega) (by omega), hx]
theorem dn_of {M : Nat} {a b c d : Value} (h0 : dw M 0 = a) (h1 : dw M 1 = b) (h2 : dw M 2 = c) (h3 : dw M 3 = d) : dn M = .agg #[a, b, c, d] := by subst h0 h1 h2 h3; rfl
theorem dws_of {M : Nat} {a b c d : Value} (h0 : dw M 0 = a) (h1 : dw M 1 = b) (h2 : dw M 2 = c) (h3 : dw M 3 = d) : dws M = [a, b, c, d] := by subst h0 h1 h2 h3; rfl
theorem ext44 {u w : World} {g k : Nat} (e : Ext u w) (hg : u.heap.size ≤ g) (hk : u.heap.size ≤ k) (a b c d a' b' c' d' : Value) : Ext u ((((((((w.setCell ⟨g, 0, none⟩ a).setCell ⟨g, 1, none⟩ b).setCell ⟨g, 2, none⟩ c).setCell ⟨g, 3, none⟩ d).setCell ⟨k, 0, none⟩ a').setCell ⟨k, 1, none⟩ b').setCell ⟨k, 2, none⟩ c').setCell ⟨k, 3, none⟩ d').drew :=
  Only.ext (Only.ext e (only4 g w a b c d) hg) (only4 k _ a' b' c' d').drewD hk
theorem ov6_new (w : World) (M N : Nat) : Ov6 w.heap.size M N 0 0 ((((((w.alloc (dnBox M)).alloc (dnBox N)).alloc zeroDn).alloc zeroDn).alloc zeroDn).alloc zeroDn) ∧ Ext w ((((((w.alloc (dnBox M)).alloc (dnBox N)).alloc zeroDn).alloc zeroDn).alloc zeroDn).alloc zeroDn) := by
  have z : dws 0 = zs := by simp [dws, dw_zero]
  refine ⟨⟨?_, ?_, ?_, ?_, ?_, ?_⟩, ?_⟩
  · exact (((((blk_at (dws M) rfl).alloc _).alloc _).alloc _).alloc _).alloc _
  · exact ((((blk_at (dws N) (by simp)).alloc _).alloc _).alloc _).alloc _
  · exact (((blk_at zs (by simp)).alloc _).alloc _).alloc _
  · exact ((blk_at zs (by simp)).alloc _).alloc _
  · rw [z]; exact (blk_at zs (by simp)).alloc _
  · rw [z]; exact blk_at zs (by simp)
  · exact (ext3 _ _ _ _).trans' (ext3 _ _ _ _)

set_option maxRecDepth 100000 in
set_option maxHeartbeats 2000000 in
theorem nOver (M N : Nat) (w : World) (hM : M < B64 ^ 4) (hN0 : 0 < N) (hN : N < B64 ^ 3) : Calls Tryz.prog 91 #[dn M, dn N] w (RetPair (dn (M / N)) (dn (M % N)) w) := by
  obtain ⟨W, hW⟩ : ∃ W, W = (((((w.alloc (dnBox M)).alloc (dnBox N)).alloc zeroDn).alloc zeroDn).alloc zeroDn).alloc zeroDn := ⟨_, rfl⟩
  have hV := ov6_new w M N
  rw [← hW] at hV
  have HV := Lib.hid hV
  have HWW := Lib.hid hW; clear hW hV
  have hM256 : M < 2 ^ 256 := hM
  have HMM := Lib.hid hM256; have HNN := Lib.hid hN
  clear hM hM256 hN
  go_enter Tryz.func91, Tryz.ntmps91
  go_wp2_with (fail)
  rw [← HWW.out]
  go_loopw [8] (fun i wr => ∃ (k : Nat), k ≤ 256 ∧ i = .int .i64 ((k : Int) - 1) ∧ Ov6 w.heap.size M N (M / 2 ^ k / N * 2 ^ k) (M / 2 ^ k % N) wr ∧ Ext w wr) (fun i _ => match i with | .int _ n => (n + 1).toNat | _ => 0)
  case atStart =>
    refine ⟨256, by omega, rfl, ?_, HV.out.2⟩
    have e0 : M / 2 ^ 256 = 0 := Nat.div_eq_of_lt HMM.out
    rw [e0, Nat.zero_div, Nat.zero_mul, Nat.zero_mod]
    exact HV.out.1
  case round =>
    obtain ⟨k, hk, rfl, hv, he⟩ := hrel
    have HO := Lib.hid hv; have HE := Lib.hid he
    clear hv he
    rcases Nat.eq_zero_or_pos k with rfl | hk0
    · have hv := HO.out
      rw [Nat.pow_zero, Nat.div_one, Nat.mul_one] at hv
      obtain ⟨_, _, v2, v3, v4, v5⟩ := hv
      obtain ⟨a0, a1, a2, a3, la⟩ := four_cells v4
      obtain ⟨b0, b1, b2, b3, lb⟩ := four_cells v5
      obtain ⟨x0, x1, x2, x3, hx0, hx1, hx2, hx3, _⟩ := words_of (M / N)
      obtain ⟨y0, y1, y2, y3, hy0, hy1, hy2, hy3, _⟩ := words_of (M % N)
      rw [hx0] at a0; rw [hx1] at a1; rw [hx2] at a2; rw [hx3] at a3
      rw [hy0] at b0; rw [hy1] at b1; rw [hy2] at b2; rw [hy3] at b3
      have HXX := Lib.hid (show dn (M / N) = .agg #[.int .u64 x0, .int .u64 x1, .int .u64 x2, .int .u64 x3] from dn_of hx0 hx1 hx2 hx3)
      have HYY := Lib.hid (show dn (M % N) = .agg #[.int .u64 y0, .int .u64 y1, .int .u64 y2, .int .u64 y3] from dn_of hy0 hy1 hy2 hy3)
      clear hx0 hx1 hx2 hx3 hy0 hy1 hy2 hy3
      obtain ⟨c0, c1, c2, c3, lc⟩ := four_cells v2
      obtain ⟨d0, d1, d2, d3, ld⟩ := four_cells v3
      have f0 := v2.frozen 0; have f1 := v2.frozen 1; have f2 := v2.frozen 2; have f3 := v2.frozen 3
      have g0 := v3.frozen 0; have g1 := v3.frozen 1; have g2 := v3.frozen 2; have g3 := v3.frozen 3
      clear v2 v3 v4 v5
      go_wp2_with (fail)
      go_region
      all_goals go_wp2
      all_goals exact bodyPost_ret (v := .tuple #[.agg #[.int .u64 x0, .int .u64 x1, .int .u64 x2, .int .u64 x3], .agg #[.int .u64 y0, .int .u64 y1, .int .u64 y2, .int .u64 y3]]) (by simp [results, Tryz.results91, go_sem, c0, c1, c2, c3, d0, d1, d2, d3]) rfl ⟨by rw [HXX.out, HYY.out], ext44 HE.out (by omega) (by omega) _ _ _ _ _ _ _ _⟩
    · obtain ⟨m, rfl⟩ : ∃ m, k = m + 1 := ⟨k - 1, by omega⟩
      rw [show ((m + 1 : Nat) : Int) - 1 = (m : Int) by omega]
      have HK := Lib.hid hk
      have m0 : (0 : Int) ≤ (m : Int) := by omega
      obtain ⟨R, hR⟩ : ∃ R, R = M / 2 ^ (m + 1) % N := ⟨_, rfl⟩
      obtain ⟨Q, hQ⟩ : ∃ Q, Q = M / 2 ^ (m + 1) / N := ⟨_, rfl⟩
      obtain ⟨b, hb⟩ : ∃ b, b = M / 2 ^ m % 2 := ⟨_, rfl⟩
      rw [← hR, ← hQ] at HO
      have HS := Lib.hid (over_step M N m hN0 Q R b hQ hR hb)
      have hb2 : b < 2 := by rw [hb]; omega
      have HB2 := Lib.hid hb2
      obtain ⟨j, hj⟩ : ∃ j, j = m / 64 := ⟨_, rfl⟩
      obtain ⟨s, hs⟩ : ∃ s, s = m % 64 := ⟨_, rfl⟩
      have hm : m = 64 * j + s := by omega
      have hs64 : s < 64 := by omega
      have hj4 : j < 4 := by omega
      have HBIT := Lib.hid (show D M j % B64 / 2 ^ s % 2 = b by rw [over_bit M j s hs64, hb, ← hm])
      have HJ := Lib.hid hj4; have HSS := Lib.hid hs64; have HM := Lib.hid hm
      obtain ⟨Q2, hQ2⟩ : ∃ Q2, Q2 = Q * 2 ^ (m + 1) := ⟨_, rfl⟩
      rw [← hQ2] at HO
      have ej : Int.tdiv (m : Int) 64 = (j : Int) := by rw [Int.tdiv_eq_ediv_of_nonneg (by omega)]; omega
      have es : Int.tmod (m : Int) 64 = (s : Int) := by rw [Int.tmod_eq_emod_of_nonneg (by omega)]; omega
      clear hR hQ hb hb2 hj hs hm hs64 hj4
      obtain ⟨y0, y1, y2, y3, hy0, hy1, hy2, hy3, _⟩ := words_of (R + R)
      have HYY := Lib.hid (show dws (R + R) = [.int .u64 y0, .int .u64 y1, .int .u64 y2, .int .u64 y3] from dws_of hy0 hy1 hy2 hy3)
      have HP := Lib.hid (fun W => (show Calls Tryz.prog 95 #[dn R, dn R] W (RetE (.agg #[.int .u64 y0, .int .u64 y1, .int .u64 y2, .int .u64 y3]) W) by rw [← hy0, ← hy1, ← hy2, ← hy3]; exact nPlus R R W))
      clear hy1 hy2 hy3
      have HY0 := Lib.hid hy0; clear hy0
      obtain ⟨_, _, _, _, _, v5⟩ := HO.out
      obtain ⟨b0, b1, b2, b3, lb⟩ := four_cells v5
      have HV5 := Lib.hid v5
      clear v5
      go_wp2_with (fail)
      go_at_call 95
      refine (HP.out _).mono ?_
      rintro e w1 ⟨rfl, hE⟩
      have k1 := Lib.hid (HO.out.ext hE)
      obtain ⟨_, _, _, _, _, v5⟩ := k1.out
      obtain ⟨b0, b1, b2, b3, lb⟩ := four_cells v5
      have f0 := v5.frozen 0; have f1 := v5.frozen 1; have f2 := v5.frozen 2; have f3 := v5.frozen 3
      have HE1 := Lib.hid (HE.out.trans' hE)
      have HV1 := Lib.hid v5
      clear v5 hE HV5
      go_upto_region 6 with fail
      obtain ⟨W2, hW2⟩ : ∃ W2, W2 = (((w1.setCell ⟨w.heap.size + 5, 0, none⟩ (.int .u64 y0)).setCell ⟨w.heap.size + 5, 1, none⟩ (.int .u64 y1)).setCell ⟨w.heap.size + 5, 2, none⟩ (.int .u64 y2)).setCell ⟨w.heap.size + 5, 3, none⟩ (.int .u64 y3) := ⟨_, rfl⟩
      have O2 := Lib.hid (show Only (w.heap.size + 5) w1 W2 by rw [hW2]; exact only4 _ _ _ _ _ _)
      have V2 := Lib.hid (show Blk W2 (w.heap.size + 5) 37 (dws (R + R)) by rw [HYY.out, hW2]; exact set4 HV1.out _ _ _ _)
      have K2 := Lib.hid (k1.out.putR O2.out V2.out)
      have HWW2 := Lib.hid hW2; clear hW2
      rw [← HWW2.out]
      clear b0 b1 b2 b3 lb f0 f1 f2 f3
      obtain ⟨b0, b1, b2, b3, lb⟩ := four_cells (HYY.out ▸ V2.out)
      have f0 := V2.out.frozen 0
      obtain ⟨a0, a1, a2, a3, la⟩ := four_cells K2.out.1
      have jb : (j : Int) < 4 := by have := HJ.out; omega
      have j0 : (0 : Int) ≤ (j : Int) := by omega
      have aj : ∃ x : Nat, x = D M j % B64 ∧ W2.cell? ⟨w.heap.size, j, none⟩ = some (.int .u64 (x : Int)) := by
        refine ⟨_, rfl, ?_⟩
        rcases (by have := HJ.out; omega : j = 0 ∨ j = 1 ∨ j = 2 ∨ j = 3) with rfl | rfl | rfl | rfl
        · exact a0
        · exact a1
        · exact a2
        · exact a3
      obtain ⟨x, hx, cx⟩ := aj
      have HX := Lib.hid hx; clear hx a0 a1 a2 a3
      obtain ⟨T, hT⟩ : ∃ T, T = R + R + b := ⟨_, rfl⟩
      obtain ⟨z0, hz0⟩ : ∃ z0, z0 = (R + R + b) % B64 := ⟨_, rfl⟩
      have hy0 : y0 = (R + R) % B64 := by have h := HY0.out; injection h with _ h; exact (Int.ofNat.inj h).symm
      have HOR := Lib.hid (over_or (x := x) (y0 := y0) (R := R) (b := b) (s := s) (by rw [HX.out]; exact HBIT.out) HSS.out (by rw [HX.out]; exact Nat.mod_lt _ B64_pos) hy0)
      rw [← hz0] at HOR
      have HZZ := Lib.hid (show dws T = [.int .u64 z0, .int .u64 y1, .int .u64 y2, .int .u64 y3] by
        have hl := (over_low R b HB2.out).2
        have hyy := HYY.out
        rw [hT, hz0]
        simp only [dws, dw, hl] at hyy ⊢
        rw [List.cons.injEq] at hyy
        rw [hyy.2]; rfl)
      have hrN := HS.out.2.2
      have hTB : T < B64 ^ 4 := by have := HNN.out; have := HB2.out; unfold B64 at *; omega
      have HBEL := Lib.hid (fun W => nBelow T N W hTB (by have := HNN.out; unfold B64 at *; omega))
      rw [show dn T = .agg #[.int .u64 z0, .int .u64 y1, .int .u64 y2, .int .u64 y3] from (by show Value.agg (dws T).toArray = _; rw [HZZ.out])] at HBEL
      have HT := Lib.hid hT
      clear hT hz0 hy0 hrN hTB
      go_region
      all_goals
        rw [HOR.out]
      obtain ⟨W3, hW3⟩ : ∃ W3, W3 = (W2.setCell ⟨w.heap.size + 5, 0, none⟩ (.int .u64 (z0 : Int))).drew := ⟨_, rfl⟩
      have O3 := Lib.hid (show Only (w.heap.size + 5) W2 W3 by rw [hW3]; exact ((Only.refl _ _).set_ 0 _).drewD)
      have V3 := Lib.hid (show Blk W3 (w.heap.size + 5) 37 (dws T) by rw [HZZ.out, hW3]; exact (HYY.out ▸ V2.out).set_ 0 _)
      have K3 := Lib.hid (K2.out.putR O3.out V3.out)
      have HWW3 := Lib.hid hW3; clear hW3
      rw [← HWW3.out]
      clear b0 b1 b2 b3 lb f0 cx la
      obtain ⟨b0, b1, b2, b3, lb⟩ := four_cells (HZZ.out ▸ V3.out)
      obtain ⟨c0, c1, c2, c3, lc⟩ := four_cells K3.out.2.1
      have f0 := V3.out.frozen 0; have f1 := V3.out.frozen 1; have f2 := V3.out.frozen 2; have f3 := V3.out.frozen 3
      by_cases hlt : T < N
      · rw [decide_eq_true hlt] at HBEL
        go_wp2_with (first | (go_at_call 96; (refine (HBEL.out _).mono ?_); rintro e w2 ⟨rfl, hE⟩) | fail)
        go_roundw
        case rel =>
          have hst := HS.out.1 (HT.out ▸ hlt)
          refine ⟨m, by have := HK.out; omega, rfl, ?_, ?_⟩
          · rw [hst.1, hst.2, (over_q Q m).1, ← hQ2, ← HT.out]
            exact K3.out.ext hE
          · exact (Only.ext (Only.ext HE1.out O2.out (by omega)) O3.out (by omega)).trans' hE
        all_goals simp
      · rw [decide_eq_false hlt] at HBEL
        obtain ⟨u0, u1, u2, u3, hu0, hu1, hu2, hu3, _⟩ := words_of (T - N)
        have HUU := Lib.hid (show dws (T - N) = [.int .u64 u0, .int .u64 u1, .int .u64 u2, .int .u64 u3] from dws_of hu0 hu1 hu2 hu3)
        have HMIN := Lib.hid (fun W => nMinus T N W (by omega))
        rw [show dn T = .agg #[.int .u64 z0, .int .u64 y1, .int .u64 y2, .int .u64 y3] from (by show Value.agg (dws T).toArray = _; rw [HZZ.out]), dn_of hu0 hu1 hu2 hu3] at HMIN
        clear hu0 hu1 hu2 hu3
        go_upto_region 9 with (first | (go_at_call 96; (refine (HBEL.out _).mono ?_); rintro e w2 ⟨rfl, hE⟩; have K4 := Lib.hid (K3.out.ext hE); have HE2 := Lib.hid hE; clear b0 b1 b2 b3 lb c0 c1 c2 c3 lc f0 f1 f2 f3 hE; obtain ⟨b0, b1, b2, b3, lb⟩ := four_cells (HZZ.out ▸ K4.out.2.2.2.2.2); obtain ⟨c0, c1, c2, c3, lc⟩ := four_cells K4.out.2.1) | (go_at_call 97; (refine (HMIN.out _).mono ?_); rintro e w3 ⟨rfl, hE⟩; have K5 := Lib.hid (K4.out.ext hE); have HE3 := Lib.hid hE; clear b0 b1 b2 b3 lb c0 c1 c2 c3 lc hE; obtain ⟨b0, b1, b2, b3, lb⟩ := four_cells (HZZ.out ▸ K5.out.2.2.2.2.2); have f0 := K5.out.2.2.2.2.2.frozen 0; have f1 := K5.out.2.2.2.2.2.frozen 1; have f2 := K5.out.2.2.2.2.2.frozen 2; have f3 := K5.out.2.2.2.2.2.frozen 3) | fail)
        obtain ⟨W6, hW6⟩ : ∃ W6, W6 = (((w3.setCell ⟨w.heap.size + 5, 0, none⟩ (.int .u64 u0)).setCell ⟨w.heap.size + 5, 1, none⟩ (.int .u64 u1)).setCell ⟨w.heap.size + 5, 2, none⟩ (.int .u64 u2)).setCell ⟨w.heap.size + 5, 3, none⟩ (.int .u64 u3) := ⟨_, rfl⟩
        have O6 := Lib.hid (show Only (w.heap.size + 5) w3 W6 by rw [hW6]; exact only4 _ _ _ _ _ _)
        have V6 := Lib.hid (show Blk W6 (w.heap.size + 5) 37 (dws (T - N)) by rw [HUU.out, hW6]; exact set4 (HZZ.out ▸ K5.out.2.2.2.2.2) _ _ _ _)
        have K6 := Lib.hid (K5.out.putR O6.out V6.out)
        have HWW6 := Lib.hid hW6; clear hW6
        rw [← HWW6.out]
        clear b0 b1 b2 b3 lb f0 f1 f2 f3
        obtain ⟨a0, a1, a2, a3, la⟩ := four_cells K6.out.2.2.2.2.1
        have aj : ∃ x : Nat, x = D Q2 j % B64 ∧ W6.cell? ⟨w.heap.size + 4, j, none⟩ = some (.int .u64 (x : Int)) := by
          refine ⟨_, rfl, ?_⟩
          rcases (by have := HJ.out; omega : j = 0 ∨ j = 1 ∨ j = 2 ∨ j = 3) with rfl | rfl | rfl | rfl
          · exact a0
          · exact a1
          · exact a2
          · exact a3
        obtain ⟨v, hv, cv⟩ := aj
        have HOS := Lib.hid (over_shl hv HSS.out)
        have fj := K6.out.2.2.2.2.1.frozen j
        clear hv a0 a1 a2 a3
        go_region
        all_goals go_wp2_with fail
        all_goals rw [HOS.out]
        obtain ⟨W7, hW7⟩ : ∃ W7, W7 = (W6.setCell ⟨w.heap.size + 4, j, none⟩ (.int .u64 ((D Q2 j % B64 ||| 2 ^ s : Nat) : Int))).drew := ⟨_, rfl⟩
        have O7 := Lib.hid (show Only (w.heap.size + 4) W6 W7 by rw [hW7]; exact ((Only.refl _ _).set_ _ _).drewD)
        have V7 := Lib.hid (show Blk W7 (w.heap.size + 4) 37 (dws (Q2 + 2 ^ m)) by
          have hst := over_set (q := Q) HJ.out HSS.out
          rw [← HM.out, ← hQ2] at hst
          rw [hW7, ← hst]
          exact K6.out.2.2.2.2.1.set_ _ _)
        have K7 := Lib.hid (K6.out.putQ O7.out V7.out)
        have HWW7 := Lib.hid hW7; clear hW7
        rw [← HWW7.out]
        have hst := HS.out.2.1 (HT.out ▸ hlt)
        refine ⟨⟨m, by have := HK.out; omega, rfl, ?_, ?_⟩, by simp⟩
        · rw [hst.1, hst.2, (over_q Q m).2, ← hQ2, ← HT.out]
          exact K7.out
        · exact Only.ext (Only.ext ((Only.ext (Only.ext HE1.out O2.out (by omega)) O3.out (by omega)).trans' (HE2.out.trans' HE3.out)) O6.out (by omega)) O7.out (by omega)
end Go.Proofs.YtcoffndnfaemoaaGreatDoor

namespace Go.Proofs.YtcoffndnfaemoaaGreatDoor
open Go Go.RowKit

abbrev dnCells (x0 x1 x2 x3 : Int) : Obj := .cells #[.int .u64 x0, .int .u64 x1, .int .u64 x2, .int .u64 x3] 37
/-- Two new variables that hold numbers. -/
def NTwoBox (x0 x1 x2 x3 y0 y1 y2 y3 : Int) (W : World) (u v : Value) (wx : World) : Prop := ∃ p q, u = .pointer (some ⟨p, 0, none⟩) ∧ v = .pointer (some ⟨q, 0, none⟩) ∧ Blk wx p 37 [.int .u64 x0, .int .u64 x1, .int .u64 x2, .int .u64 x3] ∧ Blk wx q 37 [.int .u64 y0, .int .u64 y1, .int .u64 y2, .int .u64 y3] ∧ Ext W wx
theorem nblk_other {w : World} {p q : Nat} {t : TypeId} {cs : List Value} {u0 u1 u2 u3 : Value} (h : Blk w p t cs) (hne : p ≠ q) : Blk (((((w.setCell ⟨q, 0, none⟩ u0).setCell ⟨q, 1, none⟩ u1).setCell ⟨q, 2, none⟩ u2).setCell ⟨q, 3, none⟩ u3)) p t cs := (only4 q w u0 u1 u2 u3).block' h hne
theorem next_four {W w : World} {q : Nat} {u0 u1 u2 u3 : Value} (hE : Ext W w) (hq : W.heap.size ≤ q) : Ext W (((((w.setCell ⟨q, 0, none⟩ u0).setCell ⟨q, 1, none⟩ u1).setCell ⟨q, 2, none⟩ u2).setCell ⟨q, 3, none⟩ u3)) := Only.ext hE (only4 q w u0 u1 u2 u3) hq
theorem nset4_size (w : World) (p : Nat) (u0 u1 u2 u3 : Value) : (((((w.setCell ⟨p, 0, none⟩ u0).setCell ⟨p, 1, none⟩ u1).setCell ⟨p, 2, none⟩ u2).setCell ⟨p, 3, none⟩ u3)).heap.size = w.heap.size := by simp [World.setCell]
theorem ntwoBox_nn {W w2 : World} (x0 x1 x2 x3 y0 y1 y2 y3 : Int) (hE : Ext W w2) : NTwoBox x0 x1 x2 x3 y0 y1 y2 y3 W (.pointer (some ⟨w2.heap.size, 0, none⟩)) (.pointer (some ⟨w2.heap.size + 1, 0, none⟩)) ((w2.alloc (dnCells x0 x1 x2 x3)).alloc (dnCells y0 y1 y2 y3)) :=
  ⟨_, _, rfl, rfl, (blk_new0 w2 _ [.int .u64 x0, .int .u64 x1, .int .u64 x2, .int .u64 x3]).alloc _, blk_new1 w2 _ _ [.int .u64 y0, .int .u64 y1, .int .u64 y2, .int .u64 y3], hE.trans' (ext2 _ _ _)⟩
theorem ntwoBox_nn' {W w2 : World} (x0 x1 x2 x3 y0 y1 y2 y3 : Int) (hE : Ext W w2) : NTwoBox x0 x1 x2 x3 y0 y1 y2 y3 W (.pointer (some ⟨w2.heap.size + 1, 0, none⟩)) (.pointer (some ⟨w2.heap.size, 0, none⟩)) ((w2.alloc (dnCells y0 y1 y2 y3)).alloc (dnCells x0 x1 x2 x3)) :=
  ⟨_, _, rfl, rfl, blk_new1 w2 _ _ [.int .u64 x0, .int .u64 x1, .int .u64 x2, .int .u64 x3], (blk_new0 w2 _ [.int .u64 y0, .int .u64 y1, .int .u64 y2, .int .u64 y3]).alloc _, hE.trans' (ext2 _ _ _)⟩
theorem ntwoBox_on {W w2 : World} {p : Nat} {a b c d : Value} (x0 x1 x2 x3 y0 y1 y2 y3 : Int) (hK : Blk w2 p 37 [a, b, c, d]) (hp : W.heap.size ≤ p) (hE : Ext W w2) :
    NTwoBox x0 x1 x2 x3 y0 y1 y2 y3 W (.pointer (some ⟨p, 0, none⟩)) (.pointer (some ⟨w2.heap.size, 0, none⟩)) (((((w2.setCell ⟨p, 0, none⟩ (.int .u64 x0)).setCell ⟨p, 1, none⟩ (.int .u64 x1)).setCell ⟨p, 2, none⟩ (.int .u64 x2)).setCell ⟨p, 3, none⟩ (.int .u64 x3)).alloc (dnCells y0 y1 y2 y3)) := by
  have hn := blk_new0 ((((w2.setCell ⟨p, 0, none⟩ (.int .u64 x0)).setCell ⟨p, 1, none⟩ (.int .u64 x1)).setCell ⟨p, 2, none⟩ (.int .u64 x2)).setCell ⟨p, 3, none⟩ (.int .u64 x3)) 37 [.int .u64 y0, .int .u64 y1, .int .u64 y2, .int .u64 y3]
  rw [nset4_size] at hn
  exact ⟨_, _, rfl, rfl, (set4 hK _ _ _ _).alloc _, hn, (next_four hE hp).trans' (ext1 _ _)⟩
theorem ntwoBox_no {W w2 : World} {q : Nat} {a b c d : Value} (x0 x1 x2 x3 y0 y1 y2 y3 : Int) (hK : Blk w2 q 37 [a, b, c, d]) (hq : W.heap.size ≤ q) (hE : Ext W w2) :
    NTwoBox x0 x1 x2 x3 y0 y1 y2 y3 W (.pointer (some ⟨w2.heap.size, 0, none⟩)) (.pointer (some ⟨q, 0, none⟩)) (((((w2.setCell ⟨q, 0, none⟩ (.int .u64 y0)).setCell ⟨q, 1, none⟩ (.int .u64 y1)).setCell ⟨q, 2, none⟩ (.int .u64 y2)).setCell ⟨q, 3, none⟩ (.int .u64 y3)).alloc (dnCells x0 x1 x2 x3)) := by
  have hn := blk_new0 ((((w2.setCell ⟨q, 0, none⟩ (.int .u64 y0)).setCell ⟨q, 1, none⟩ (.int .u64 y1)).setCell ⟨q, 2, none⟩ (.int .u64 y2)).setCell ⟨q, 3, none⟩ (.int .u64 y3)) 37 [.int .u64 x0, .int .u64 x1, .int .u64 x2, .int .u64 x3]
  rw [nset4_size] at hn
  exact ⟨_, _, rfl, rfl, hn, (set4 hK _ _ _ _).alloc _, (next_four hE hq).trans' (ext1 _ _)⟩
theorem ntwoBox_oo {W w2 : World} {p q : Nat} {a b c d a' b' c' d' : Value} (x0 x1 x2 x3 y0 y1 y2 y3 : Int) (hP : Blk w2 p 37 [a, b, c, d]) (hQ : Blk w2 q 37 [a', b', c', d']) (hp : W.heap.size ≤ p) (hq : W.heap.size ≤ q) (hne : p ≠ q) (hE : Ext W w2) :
    NTwoBox x0 x1 x2 x3 y0 y1 y2 y3 W (.pointer (some ⟨p, 0, none⟩)) (.pointer (some ⟨q, 0, none⟩)) ((((((((w2.setCell ⟨p, 0, none⟩ (.int .u64 x0)).setCell ⟨p, 1, none⟩ (.int .u64 x1)).setCell ⟨p, 2, none⟩ (.int .u64 x2)).setCell ⟨p, 3, none⟩ (.int .u64 x3)).setCell ⟨q, 0, none⟩ (.int .u64 y0)).setCell ⟨q, 1, none⟩ (.int .u64 y1)).setCell ⟨q, 2, none⟩ (.int .u64 y2)).setCell ⟨q, 3, none⟩ (.int .u64 y3)) :=
  ⟨_, _, rfl, rfl, nblk_other (set4 hP _ _ _ _) hne, set4 (nblk_other hQ hne.symm) _ _ _ _, next_four (next_four hE hp) hq⟩
theorem ndnE1 {W w1 : World} (h : Ext (W.alloc zeroDn).drew w1) : Ext W w1 := (ext1 _ _).trans' (dundrew1 h)
theorem ndnE2 {W w1 : World} (h : Ext ((W.alloc zeroDn).alloc zeroDn).drew w1) : Ext W w1 := (ext2 _ _ _).trans' (dundrew2 h)
theorem ndnF1 {W w1 : World} (h : Ext (W.alloc zeroDn) w1) : Ext W w1 := (ext1 _ _).trans' h
theorem ndnF2 {W w1 : World} (h : Ext ((W.alloc zeroDn).alloc zeroDn) w1) : Ext W w1 := (ext2 _ _ _).trans' h
theorem ndnN1 {W w1 : World} (h : Ext (W.alloc zeroDn) w1) : Blk w1 W.heap.size 37 zs := (blk_new0 W 37 zs).ext h
theorem ndnN2 {W w1 : World} (h : Ext ((W.alloc zeroDn).alloc zeroDn) w1) : Blk w1 W.heap.size 37 zs ∧ Blk w1 (W.heap.size + 1) 37 zs := ⟨((blk_new0 W 37 zs).alloc _).ext h, (blk_new1 W _ 37 zs).ext h⟩
theorem ndnM1 {W w1 : World} (h : Ext (W.alloc zeroDn).drew w1) : Blk w1 W.heap.size 37 zs := ndnN1 (dundrew1 h)
theorem ndnM2 {W w1 : World} (h : Ext ((W.alloc zeroDn).alloc zeroDn).drew w1) : Blk w1 W.heap.size 37 zs ∧ Blk w1 (W.heap.size + 1) 37 zs := ndnN2 (dundrew2 h)
/-- The number that the region reads. -/
def DF4 (n : Nat) (x0 x1 x2 x3 : Value) (w' : World) : Prop := w'.cell? ⟨n, 1, none⟩ = some x0 ∧ w'.cell? ⟨n, 2, none⟩ = some x1 ∧ w'.cell? ⟨n, 3, none⟩ = some x2 ∧ w'.cell? ⟨n, 4, none⟩ = some x3
theorem DF4.ext {n : Nat} {x0 x1 x2 x3 : Value} {w w' : World} (h : DF4 n x0 x1 x2 x3 w) (e : Ext w w') : DF4 n x0 x1 x2 x3 w' := ⟨e.cell' h.1, e.cell' h.2.1, e.cell' h.2.2.1, e.cell' h.2.2.2⟩
theorem DF4.drew {n : Nat} {x0 x1 x2 x3 : Value} {w : World} (h : DF4 n x0 x1 x2 x3 w) : DF4 n x0 x1 x2 x3 w.drew := h
theorem DF4.alloc {n : Nat} {x0 x1 x2 x3 : Value} {w : World} (h : DF4 n x0 x1 x2 x3 w) (o : Obj) : DF4 n x0 x1 x2 x3 (w.alloc o) := h.ext (Ext.alloc' _ _)
theorem DF4.set4 {n q : Nat} {x0 x1 x2 x3 u0 u1 u2 u3 : Value} {w : World} (h : DF4 n x0 x1 x2 x3 w) (h1 : n ≠ q) : DF4 n x0 x1 x2 x3 (((((w.setCell ⟨q, 0, none⟩ u0).setCell ⟨q, 1, none⟩ u1).setCell ⟨q, 2, none⟩ u2).setCell ⟨q, 3, none⟩ u3)) :=
  ⟨set_far (set_far (set_far (set_far h.1 h1) h1) h1) h1, set_far (set_far (set_far (set_far h.2.1 h1) h1) h1) h1, set_far (set_far (set_far (set_far h.2.2.1 h1) h1) h1) h1, set_far (set_far (set_far (set_far h.2.2.2 h1) h1) h1) h1⟩

/-- The parts of a number that fits. -/
theorem parts_facts {z : Int} (h : FitT z) (q r : Nat) (hq : q = z.natAbs / 10 ^ 18) (hr : r = z.natAbs % 10 ^ 18) : q < 9223372036854775808 ∧ r < 1000000000000000000 ∧ (z < 0 → z.tdiv T18 = -(q : Int) ∧ z.tmod T18 = -(r : Int)) ∧ (¬ z < 0 → z.tdiv T18 = (q : Int) ∧ z.tmod T18 = (r : Int)) := by
  unfold FitT at h
  rw [show (10 : Nat) ^ 18 = 1000000000000000000 from rfl] at hq hr
  refine ⟨by omega, by omega, fun hz => ?_, fun hz => ?_⟩
  · obtain ⟨n, rfl⟩ : ∃ n : Nat, z = -(n : Int) := ⟨z.natAbs, by omega⟩
    rw [Int.natAbs_neg, Int.natAbs_natCast] at hq hr
    unfold T18
    rw [Int.neg_tdiv, Int.neg_tmod, Int.tdiv_eq_ediv_of_nonneg (by omega), Int.tmod_eq_emod_of_nonneg (by omega)]
    omega
  · obtain ⟨n, rfl⟩ : ∃ n : Nat, z = (n : Int) := ⟨z.natAbs, by omega⟩
    rw [Int.natAbs_natCast] at hq hr
    unfold T18
    rw [Int.tdiv_eq_ediv_of_nonneg (by omega), Int.tmod_eq_emod_of_nonneg (by omega)]
    omega

set_option maxRecDepth 100000 in
set_option maxHeartbeats 4000000 in
theorem sPartsG (b : Bool) (M N q r : Nat) (Q R : Int) (w : World) (hq : q < 9223372036854775808) (hr : r < 1000000000000000000) (hb : (b = true ∧ Q = -(q : Int) ∧ R = -(r : Int)) ∨ (b = false ∧ Q = (q : Int) ∧ R = (r : Int)))
    (hT : ∀ W, Calls Tryz.prog 57 #[.int .i64 18] W (RetE (dn N) W)) (hO : ∀ W, Calls Tryz.prog 91 #[dn M, dn N] W (RetPair (.agg #[.int .u64 q, .int .u64 0, .int .u64 0, .int .u64 0]) (.agg #[.int .u64 r, .int .u64 0, .int .u64 0, .int .u64 0]) W)) :
    Calls Tryz.prog 51 #[deV b M] w (RetE (.tuple #[.int .i64 Q, .int .i64 R, .bool true]) w) := by
  have HT := Lib.hid hT; have HO := Lib.hid hO
  obtain ⟨W, hW⟩ : ∃ W, W = w.alloc (deBox b M) := ⟨_, rfl⟩
  have K0 := Lib.hid (show Blk W w.heap.size 39 [.bool b, dw M 0, dw M 1, dw M 2, dw M 3] by rw [hW]; exact blk_new0 w 39 [.bool b, dw M 0, dw M 1, dw M 2, dw M 3])
  have EW := Lib.hid (show Ext w W by rw [hW]; exact ext1 _ _)
  have HWW := Lib.hid hW; clear hW hT hO
  obtain ⟨c0, c1, c2, c3, c4, lc⟩ := five_cells K0.out
  have KS0 := Lib.hid (show DF4 w.heap.size (dw M 0) (dw M 1) (dw M 2) (dw M 3) W from ⟨c1, c2, c3, c4⟩)
  have KS0d := Lib.hid (show DF4 w.heap.size (dw M 0) (dw M 1) (dw M 2) (dw M 3) W.drew from KS0.out)
  clear c0
  go_enter Tryz.func51, Tryz.ntmps51
  go_upto_region 1 with fail
  rw [← HWW.out]
  go_cut [5, 6] (fun s5 s6 wx => NTwoBox q 0 0 0 r 0 0 0 W s5 s6 wx)
  case first =>
    go_region_held3 (fun w' => w'.cell? ⟨w.heap.size, 1, none⟩ = some (dw M 0) ∧ w'.cell? ⟨w.heap.size, 2, none⟩ = some (dw M 1) ∧ w'.cell? ⟨w.heap.size, 3, none⟩ = some (dw M 2) ∧ w'.cell? ⟨w.heap.size, 4, none⟩ = some (dw M 3)) ((show DF4 w.heap.size (dw M 0) (dw M 1) (dw M 2) (dw M 3) _; (repeat (first | (with_reducible refine DF4.drew ?_) | (with_reducible refine DF4.alloc ?_ _) | (with_reducible refine DF4.set4 ?_ ?_; rotate_left; omega))); with_reducible first | exact KS2.out | exact KS1.out | exact KS0d.out | exact KS0.out)) (first | (go_at_call 57; (with_reducible refine (HT.out _).mono ?_); rintro e w1 ⟨rfl, hE⟩; have HE1 := Lib.hid (show Ext W w1 by with_reducible first | exact Ext.undrew hE | exact ndnE1 hE | exact ndnE2 hE); have KS1 := Lib.hid (KS0.out.ext HE1.out); have sz1 := HE1.out.size; (try ((with_reducible have KA := Lib.hid (ndnM1 hE)); have lA := KA.out.lt; have pA : ¬ W.heap.size = w1.heap.size := (by omega); have pA' : ¬ w1.heap.size = W.heap.size := (by omega))); (try ((with_reducible have KAB := ndnM2 hE); have KA := Lib.hid KAB.1; have KB := Lib.hid KAB.2; clear KAB)); clear hE c1 c2 c3 c4) | (go_at_call 91; (with_reducible refine (HO.out _).mono ?_); rintro e w2 ⟨rfl, hE⟩; have HE12 := Lib.hid (show Ext w1 w2 by with_reducible first | exact hE | exact ndnF1 hE | exact ndnF2 hE); have HE2 := Lib.hid (HE1.out.trans' HE12.out); have KS2 := Lib.hid (KS1.out.ext HE12.out); have sz2 := HE12.out.size; (try (have K5 := Lib.hid (KA.out.ext HE12.out); have l5 := K5.out.lt; have q50 : w2.cell? ⟨W.heap.size, 0, none⟩ = some (.int .u64 0) := (K5.out.cell 0).trans rfl; have f50 := K5.out.frozen 0; have qa50 : ∀ o : Obj, (w2.alloc o).cell? ⟨W.heap.size, 0, none⟩ = some (.int .u64 0) := fun o => ((K5.out.alloc o).cell 0).trans rfl; have fa50 : ∀ o : Obj, (w2.alloc o).frozen? ⟨W.heap.size, 0, none⟩ = false := fun o => (K5.out.alloc o).frozen 0; have q51 : w2.cell? ⟨W.heap.size, 1, none⟩ = some (.int .u64 0) := (K5.out.cell 1).trans rfl; have f51 := K5.out.frozen 1; have qa51 : ∀ o : Obj, (w2.alloc o).cell? ⟨W.heap.size, 1, none⟩ = some (.int .u64 0) := fun o => ((K5.out.alloc o).cell 1).trans rfl; have fa51 : ∀ o : Obj, (w2.alloc o).frozen? ⟨W.heap.size, 1, none⟩ = false := fun o => (K5.out.alloc o).frozen 1; have q52 : w2.cell? ⟨W.heap.size, 2, none⟩ = some (.int .u64 0) := (K5.out.cell 2).trans rfl; have f52 := K5.out.frozen 2; have qa52 : ∀ o : Obj, (w2.alloc o).cell? ⟨W.heap.size, 2, none⟩ = some (.int .u64 0) := fun o => ((K5.out.alloc o).cell 2).trans rfl; have fa52 : ∀ o : Obj, (w2.alloc o).frozen? ⟨W.heap.size, 2, none⟩ = false := fun o => (K5.out.alloc o).frozen 2; have q53 : w2.cell? ⟨W.heap.size, 3, none⟩ = some (.int .u64 0) := (K5.out.cell 3).trans rfl; have f53 := K5.out.frozen 3; have qa53 : ∀ o : Obj, (w2.alloc o).cell? ⟨W.heap.size, 3, none⟩ = some (.int .u64 0) := fun o => ((K5.out.alloc o).cell 3).trans rfl; have fa53 : ∀ o : Obj, (w2.alloc o).frozen? ⟨W.heap.size, 3, none⟩ = false := fun o => (K5.out.alloc o).frozen 3; have e5 : ¬ W.heap.size = w2.heap.size := (by omega); have e5' : ¬ w2.heap.size = W.heap.size := (by omega))); (try (have K6 := Lib.hid (KB.out.ext HE12.out); have l6 := K6.out.lt; have q60 : w2.cell? ⟨W.heap.size + 1, 0, none⟩ = some (.int .u64 0) := (K6.out.cell 0).trans rfl; have f60 := K6.out.frozen 0; have qa60 : ∀ o : Obj, (w2.alloc o).cell? ⟨W.heap.size + 1, 0, none⟩ = some (.int .u64 0) := fun o => ((K6.out.alloc o).cell 0).trans rfl; have fa60 : ∀ o : Obj, (w2.alloc o).frozen? ⟨W.heap.size + 1, 0, none⟩ = false := fun o => (K6.out.alloc o).frozen 0; have q61 : w2.cell? ⟨W.heap.size + 1, 1, none⟩ = some (.int .u64 0) := (K6.out.cell 1).trans rfl; have f61 := K6.out.frozen 1; have qa61 : ∀ o : Obj, (w2.alloc o).cell? ⟨W.heap.size + 1, 1, none⟩ = some (.int .u64 0) := fun o => ((K6.out.alloc o).cell 1).trans rfl; have fa61 : ∀ o : Obj, (w2.alloc o).frozen? ⟨W.heap.size + 1, 1, none⟩ = false := fun o => (K6.out.alloc o).frozen 1; have q62 : w2.cell? ⟨W.heap.size + 1, 2, none⟩ = some (.int .u64 0) := (K6.out.cell 2).trans rfl; have f62 := K6.out.frozen 2; have qa62 : ∀ o : Obj, (w2.alloc o).cell? ⟨W.heap.size + 1, 2, none⟩ = some (.int .u64 0) := fun o => ((K6.out.alloc o).cell 2).trans rfl; have fa62 : ∀ o : Obj, (w2.alloc o).frozen? ⟨W.heap.size + 1, 2, none⟩ = false := fun o => (K6.out.alloc o).frozen 2; have q63 : w2.cell? ⟨W.heap.size + 1, 3, none⟩ = some (.int .u64 0) := (K6.out.cell 3).trans rfl; have f63 := K6.out.frozen 3; have qa63 : ∀ o : Obj, (w2.alloc o).cell? ⟨W.heap.size + 1, 3, none⟩ = some (.int .u64 0) := fun o => ((K6.out.alloc o).cell 3).trans rfl; have fa63 : ∀ o : Obj, (w2.alloc o).frozen? ⟨W.heap.size + 1, 3, none⟩ = false := fun o => (K6.out.alloc o).frozen 3; have e6 : ¬ W.heap.size + 1 = w2.heap.size := (by omega); have e6' : ¬ w2.heap.size = W.heap.size + 1 := (by omega))); (first | ((with_reducible have K7 := Lib.hid (ndnN1 hE)); have l7 := K7.out.lt; have q70 : w2.cell? ⟨w1.heap.size, 0, none⟩ = some (.int .u64 0) := (K7.out.cell 0).trans rfl; have f70 := K7.out.frozen 0; have qa70 : ∀ o : Obj, (w2.alloc o).cell? ⟨w1.heap.size, 0, none⟩ = some (.int .u64 0) := fun o => ((K7.out.alloc o).cell 0).trans rfl; have fa70 : ∀ o : Obj, (w2.alloc o).frozen? ⟨w1.heap.size, 0, none⟩ = false := fun o => (K7.out.alloc o).frozen 0; have q71 : w2.cell? ⟨w1.heap.size, 1, none⟩ = some (.int .u64 0) := (K7.out.cell 1).trans rfl; have f71 := K7.out.frozen 1; have qa71 : ∀ o : Obj, (w2.alloc o).cell? ⟨w1.heap.size, 1, none⟩ = some (.int .u64 0) := fun o => ((K7.out.alloc o).cell 1).trans rfl; have fa71 : ∀ o : Obj, (w2.alloc o).frozen? ⟨w1.heap.size, 1, none⟩ = false := fun o => (K7.out.alloc o).frozen 1; have q72 : w2.cell? ⟨w1.heap.size, 2, none⟩ = some (.int .u64 0) := (K7.out.cell 2).trans rfl; have f72 := K7.out.frozen 2; have qa72 : ∀ o : Obj, (w2.alloc o).cell? ⟨w1.heap.size, 2, none⟩ = some (.int .u64 0) := fun o => ((K7.out.alloc o).cell 2).trans rfl; have fa72 : ∀ o : Obj, (w2.alloc o).frozen? ⟨w1.heap.size, 2, none⟩ = false := fun o => (K7.out.alloc o).frozen 2; have q73 : w2.cell? ⟨w1.heap.size, 3, none⟩ = some (.int .u64 0) := (K7.out.cell 3).trans rfl; have f73 := K7.out.frozen 3; have qa73 : ∀ o : Obj, (w2.alloc o).cell? ⟨w1.heap.size, 3, none⟩ = some (.int .u64 0) := fun o => ((K7.out.alloc o).cell 3).trans rfl; have fa73 : ∀ o : Obj, (w2.alloc o).frozen? ⟨w1.heap.size, 3, none⟩ = false := fun o => (K7.out.alloc o).frozen 3; have e7 : ¬ w1.heap.size = w2.heap.size := (by omega); have e7' : ¬ w2.heap.size = w1.heap.size := (by omega)) | ((with_reducible have K78 := ndnN2 hE); have K7 := Lib.hid K78.1; have K8 := Lib.hid K78.2; clear K78; have l7 := K7.out.lt; have q70 : w2.cell? ⟨w1.heap.size, 0, none⟩ = some (.int .u64 0) := (K7.out.cell 0).trans rfl; have f70 := K7.out.frozen 0; have qa70 : ∀ o : Obj, (w2.alloc o).cell? ⟨w1.heap.size, 0, none⟩ = some (.int .u64 0) := fun o => ((K7.out.alloc o).cell 0).trans rfl; have fa70 : ∀ o : Obj, (w2.alloc o).frozen? ⟨w1.heap.size, 0, none⟩ = false := fun o => (K7.out.alloc o).frozen 0; have q71 : w2.cell? ⟨w1.heap.size, 1, none⟩ = some (.int .u64 0) := (K7.out.cell 1).trans rfl; have f71 := K7.out.frozen 1; have qa71 : ∀ o : Obj, (w2.alloc o).cell? ⟨w1.heap.size, 1, none⟩ = some (.int .u64 0) := fun o => ((K7.out.alloc o).cell 1).trans rfl; have fa71 : ∀ o : Obj, (w2.alloc o).frozen? ⟨w1.heap.size, 1, none⟩ = false := fun o => (K7.out.alloc o).frozen 1; have q72 : w2.cell? ⟨w1.heap.size, 2, none⟩ = some (.int .u64 0) := (K7.out.cell 2).trans rfl; have f72 := K7.out.frozen 2; have qa72 : ∀ o : Obj, (w2.alloc o).cell? ⟨w1.heap.size, 2, none⟩ = some (.int .u64 0) := fun o => ((K7.out.alloc o).cell 2).trans rfl; have fa72 : ∀ o : Obj, (w2.alloc o).frozen? ⟨w1.heap.size, 2, none⟩ = false := fun o => (K7.out.alloc o).frozen 2; have q73 : w2.cell? ⟨w1.heap.size, 3, none⟩ = some (.int .u64 0) := (K7.out.cell 3).trans rfl; have f73 := K7.out.frozen 3; have qa73 : ∀ o : Obj, (w2.alloc o).cell? ⟨w1.heap.size, 3, none⟩ = some (.int .u64 0) := fun o => ((K7.out.alloc o).cell 3).trans rfl; have fa73 : ∀ o : Obj, (w2.alloc o).frozen? ⟨w1.heap.size, 3, none⟩ = false := fun o => (K7.out.alloc o).frozen 3; have e7 : ¬ w1.heap.size = w2.heap.size := (by omega); have e7' : ¬ w2.heap.size = w1.heap.size := (by omega); have l8 := K8.out.lt; have q80 : w2.cell? ⟨w1.heap.size + 1, 0, none⟩ = some (.int .u64 0) := (K8.out.cell 0).trans rfl; have f80 := K8.out.frozen 0; have qa80 : ∀ o : Obj, (w2.alloc o).cell? ⟨w1.heap.size + 1, 0, none⟩ = some (.int .u64 0) := fun o => ((K8.out.alloc o).cell 0).trans rfl; have fa80 : ∀ o : Obj, (w2.alloc o).frozen? ⟨w1.heap.size + 1, 0, none⟩ = false := fun o => (K8.out.alloc o).frozen 0; have q81 : w2.cell? ⟨w1.heap.size + 1, 1, none⟩ = some (.int .u64 0) := (K8.out.cell 1).trans rfl; have f81 := K8.out.frozen 1; have qa81 : ∀ o : Obj, (w2.alloc o).cell? ⟨w1.heap.size + 1, 1, none⟩ = some (.int .u64 0) := fun o => ((K8.out.alloc o).cell 1).trans rfl; have fa81 : ∀ o : Obj, (w2.alloc o).frozen? ⟨w1.heap.size + 1, 1, none⟩ = false := fun o => (K8.out.alloc o).frozen 1; have q82 : w2.cell? ⟨w1.heap.size + 1, 2, none⟩ = some (.int .u64 0) := (K8.out.cell 2).trans rfl; have f82 := K8.out.frozen 2; have qa82 : ∀ o : Obj, (w2.alloc o).cell? ⟨w1.heap.size + 1, 2, none⟩ = some (.int .u64 0) := fun o => ((K8.out.alloc o).cell 2).trans rfl; have fa82 : ∀ o : Obj, (w2.alloc o).frozen? ⟨w1.heap.size + 1, 2, none⟩ = false := fun o => (K8.out.alloc o).frozen 2; have q83 : w2.cell? ⟨w1.heap.size + 1, 3, none⟩ = some (.int .u64 0) := (K8.out.cell 3).trans rfl; have f83 := K8.out.frozen 3; have qa83 : ∀ o : Obj, (w2.alloc o).cell? ⟨w1.heap.size + 1, 3, none⟩ = some (.int .u64 0) := fun o => ((K8.out.alloc o).cell 3).trans rfl; have fa83 : ∀ o : Obj, (w2.alloc o).frozen? ⟨w1.heap.size + 1, 3, none⟩ = false := fun o => (K8.out.alloc o).frozen 3; have e8 : ¬ w1.heap.size + 1 = w2.heap.size := (by omega); have e8' : ¬ w2.heap.size = w1.heap.size + 1 := (by omega)) | skip); clear hE))
    all_goals (go_wp2_with fail; go_meet)
    all_goals first | with_reducible exact ntwoBox_nn _ _ _ _ _ _ _ _ HE2.out | with_reducible exact ntwoBox_nn' _ _ _ _ _ _ _ _ HE2.out | with_reducible exact ntwoBox_on _ _ _ _ _ _ _ _ K5.out (by omega) HE2.out | with_reducible exact ntwoBox_no _ _ _ _ _ _ _ _ K5.out (by omega) HE2.out | with_reducible exact ntwoBox_on _ _ _ _ _ _ _ _ K7.out (by omega) HE2.out | with_reducible exact ntwoBox_no _ _ _ _ _ _ _ _ K7.out (by omega) HE2.out | with_reducible exact ntwoBox_oo _ _ _ _ _ _ _ _ K5.out K7.out (by omega) (by omega) (by omega) HE2.out | with_reducible exact ntwoBox_oo _ _ _ _ _ _ _ _ K7.out K5.out (by omega) (by omega) (by omega) HE2.out | with_reducible exact ntwoBox_oo _ _ _ _ _ _ _ _ K5.out K6.out (by omega) (by omega) (by omega) HE2.out | with_reducible exact ntwoBox_oo _ _ _ _ _ _ _ _ K6.out K5.out (by omega) (by omega) (by omega) HE2.out | with_reducible exact ntwoBox_oo _ _ _ _ _ _ _ _ K7.out K8.out (by omega) (by omega) (by omega) HE2.out | with_reducible exact ntwoBox_oo _ _ _ _ _ _ _ _ K8.out K7.out (by omega) (by omega) (by omega) HE2.out
  case rest =>
    obtain ⟨p, g, rfl, rfl, hP, hQ, hE⟩ := hcut
    obtain ⟨p0, p1, p2, p3, lp⟩ := four_cells hP
    obtain ⟨g0, g1, g2, g3, lg⟩ := four_cells hQ
    obtain ⟨n0, _⟩ := five_cells (K0.out.ext hE)
    have HE := Lib.hid (EW.out.trans' hE)
    clear hP hQ hE c1 c2 c3 c4
    have f3 : bits .or .u64 0 0 = 0 := by decide +kernel
    have hgt : ¬ (9223372036854775808 : Int) < (q : Int) := by omega
    have heq : ((q : Int) == 9223372036854775808) = false := by simp; omega
    have hgt' : ¬ (9223372036854775808 : Nat) < q := by omega
    have heq' : ¬ q = 9223372036854775808 := by omega
    have v1 : IntKind.i64.wrap (q : Int) = q := IntWalk.i64_in _ (by omega)
    have v2 : IntKind.i64.wrap (r : Int) = r := IntWalk.i64_in _ (by omega)
    have v3 : IntKind.i64.wrap (-(q : Int)) = -q := IntWalk.i64_in _ (by omega)
    have v4 : IntKind.i64.wrap (-(r : Int)) = -r := IntWalk.i64_in _ (by omega)
    rcases hb with ⟨rfl, rfl, rfl⟩ | ⟨rfl, rfl, rfl⟩
    · clear hq hr
      go_wp2_with fail
      go_quiet (fail)
      go_wp2
      exact bodyPost_ret (v := .tuple #[.int .i64 (-(q : Int)), .int .i64 (-(r : Int)), .bool true]) (by simp [results, Tryz.results51, go_sem]) rfl ⟨rfl, HE.out.trans' (Ext.drewN' _ _)⟩
    · clear hq hr
      go_wp2_with fail
      go_quiet (fail)
      go_wp2
      exact bodyPost_ret (v := .tuple #[.int .i64 (q : Int), .int .i64 (r : Int), .bool true]) (by simp [results, Tryz.results51, go_sem]) rfl ⟨rfl, HE.out.trans' (Ext.drewN' _ _)⟩
theorem sParts (z : Int) (w : World) (hz : FitT z) : Calls Tryz.prog 51 #[de z] w (RetE (.tuple #[.int .i64 (z.tdiv T18), .int .i64 (z.tmod T18), .bool true]) w) := by
  obtain ⟨h1, h2, h3, h4⟩ := parts_facts hz _ _ rfl rfl
  have hB : z.natAbs < B64 ^ 4 := by unfold FitT at hz; unfold B64; omega
  refine sPartsG (decide (z < 0)) z.natAbs (10 ^ 18) (z.natAbs / 10 ^ 18) (z.natAbs % 10 ^ 18) _ _ w h1 h2 ?_ (fun W => sTen 18 W (by omega)) (fun W => ?_)
  · by_cases h : z < 0
    · exact Or.inl ⟨decide_eq_true h, h3 h⟩
    · exact Or.inr ⟨decide_eq_false h, h4 h⟩
  · have e1 := dw_small (show z.natAbs / 10 ^ 18 < B64 by unfold B64; omega)
    have e2 := dw_small (show z.natAbs % 10 ^ 18 < B64 by unfold B64; omega)
    rw [← dn_of e1.1 e1.2.1 e1.2.2.1 e1.2.2.2, ← dn_of e2.1 e2.2.1 e2.2.2.1 e2.2.2.2]
    exact nOver _ _ W hB (by decide) (by unfold B64; decide)
end Go.Proofs.YtcoffndnfaemoaaGreatDoor

namespace Go.Proofs.YtcoffndnfaemoaaGreatDoor
open Go Go.RowKit

/-- One number of a list, its words named. -/
theorem de_words {w : World} {g o k : Nat} {s : ByteArray} {z : Int} (h : w.cell? ⟨g, o + k * 6, none⟩ = some (.string s) ∧ w.cell? ⟨g, o + k * 6 + 1, none⟩ = some (.bool (decide (z < 0))) ∧ w.cell? ⟨g, o + k * 6 + 2, none⟩ = some (dw z.natAbs 0) ∧ w.cell? ⟨g, o + k * 6 + 3, none⟩ = some (dw z.natAbs 1) ∧ w.cell? ⟨g, o + k * 6 + 4, none⟩ = some (dw z.natAbs 2) ∧ w.cell? ⟨g, o + k * 6 + 5, none⟩ = some (dw z.natAbs 3)) :
    ∃ (b : Bool) (x0 x1 x2 x3 : Nat), de z = .agg #[.bool b, .int .u64 x0, .int .u64 x1, .int .u64 x2, .int .u64 x3] ∧ w.cell? ⟨g, o + k * 6, none⟩ = some (.string s) ∧ w.cell? ⟨g, o + k * 6 + 1, none⟩ = some (.bool b) ∧ w.cell? ⟨g, o + k * 6 + 2, none⟩ = some (.int .u64 x0) ∧ w.cell? ⟨g, o + k * 6 + 3, none⟩ = some (.int .u64 x1) ∧ w.cell? ⟨g, o + k * 6 + 4, none⟩ = some (.int .u64 x2) ∧ w.cell? ⟨g, o + k * 6 + 5, none⟩ = some (.int .u64 x3) :=
  ⟨_, _, _, _, _, rfl, h⟩

set_option maxRecDepth 100000 in
set_option maxHeartbeats 2000000 in
theorem lIsAll (A B : Option Addr) (n c d : Nat) (zs : List (ByteArray × Int)) (w : World) (hl : zs.length = n) (hn : n ≤ 1000000) (hA : DPlainAt w A (zs.map dback)) (hB : DeAt w B zs) (hz : ∀ x ∈ zs, FitT x.2) :
    Calls Tryz.prog 17 #[.slice A n c, .bool true, .slice B n d] w (RetE (.bool true) w) := by
  have HL := Lib.hid hl; have HA := Lib.hid hA; have HB := Lib.hid hB; have HZ := Lib.hid hz
  clear hl hA hB hz
  go_enter Tryz.func17, Tryz.ntmps17
  go_wp2
  go_loopw [19] (fun i wr => ∃ (k : Nat), k ≤ n ∧ i = .int .i64 k ∧ Ext w wr) (fun i _ => n - (intOf i).toNat)
  case atStart => exact ⟨0, Nat.zero_le _, rfl, Ext.refl _⟩
  case round =>
    obtain ⟨k, hk, rfl, hE⟩ := hrel
    have HE := Lib.hid hE; clear hE
    by_cases hlt : k < n
    · have hkl : k < zs.length := by rw [HL.out]; exact hlt
      obtain ⟨s, hs⟩ : ∃ s, s = zs[k].1 := ⟨_, rfl⟩
      obtain ⟨z, hzz⟩ : ∃ z, z = zs[k].2 := ⟨_, rfl⟩
      have HF := Lib.hid (show FitT z by rw [hzz]; exact HZ.out _ (List.getElem_mem _))
      obtain ⟨g, o, hBg, hc⟩ := HB.out (by intro e; rw [e] at hkl; simp at hkl)
      subst hBg
      obtain ⟨b, x0, x1, x2, x3, hde, c0, c1, c2, c3, c4, c5⟩ := de_words (de_get (w := wr) (s := s) (z := z) hkl (fun j hj i u hu => HE.out.cell' (hc j hj i u hu)) (by rw [hs, hzz]))
      have HP := Lib.hid (fun W => sParts z W HF.out)
      rw [hde] at HP
      clear hde hs hzz hc
      go_wp2_with (first | (go_at_call 51; (refine (HP.out _).mono ?_); rintro e w1 ⟨rfl, hE⟩) | fail)
      go_roundw
      case rel => exact ⟨k + 1, by omega, by go_num, HE.out.trans' ((ext1 _ _).trans' hE)⟩
      all_goals (simp [intOf]; omega)
    · obtain rfl : n = k := by omega
      go_wp2_with fail
      obtain ⟨W, hW⟩ : ∃ W, W = wr := ⟨_, rfl⟩
      rw [← hW] at HE ⊢
      clear hW
      go_loopw [46] (fun i wz => ∃ (j : Nat), j ≤ n ∧ i = .int .i64 j ∧ Ext W wz) (fun i _ => n - (intOf i).toNat)
      case atStart => exact ⟨0, Nat.zero_le _, rfl, Ext.refl _⟩
      case round =>
        obtain ⟨j, hj, rfl, hE⟩ := hrel
        have HE2 := Lib.hid (HE.out.trans' hE); have HEW := Lib.hid hE; clear hE
        by_cases hjt : j < n
        · have hkl : j < zs.length := by rw [HL.out]; exact hjt
          obtain ⟨s, hs⟩ : ∃ s, s = zs[j].1 := ⟨_, rfl⟩
          obtain ⟨z, hzz⟩ : ∃ z, z = zs[j].2 := ⟨_, rfl⟩
          obtain ⟨q, hq⟩ : ∃ q, q = Int.tdiv z T18 := ⟨_, rfl⟩
          obtain ⟨r, hr⟩ : ∃ r, r = Int.tmod z T18 := ⟨_, rfl⟩
          have HF := Lib.hid (show FitT z by rw [hzz]; exact HZ.out _ (List.getElem_mem _))
          obtain ⟨g, o, hBg, hc⟩ := HB.out (by intro e; rw [e] at hkl; simp at hkl)
          obtain ⟨f, p, hAf, hd⟩ := HA.out (by intro e; have := congrArg List.length e; simp at this; rw [this] at hkl; simp at hkl)
          subst hBg hAf
          obtain ⟨b, x0, x1, x2, x3, hde, c0, c1, c2, c3, c4, c5⟩ := de_words (de_get (w := wr) (s := s) (z := z) hkl (fun j hj i u hu => HE2.out.cell' (hc j hj i u hu)) (by rw [hs, hzz]))
          have hdk := hd j (by simpa using hkl)
          have d0 : wr.cell? ⟨f, p + j * 3, none⟩ = some (.string s) := HE2.out.cell' (by rw [hdk.1, hs]; simp [dplain, dback])
          have d1 : wr.cell? ⟨f, p + j * 3 + 1, none⟩ = some (.int .i64 q) := HE2.out.cell' (by rw [hdk.2.1, hq, hzz]; simp [dplain, dback])
          have d2 : wr.cell? ⟨f, p + j * 3 + 2, none⟩ = some (.int .i64 r) := HE2.out.cell' (by rw [hdk.2.2, hr, hzz]; simp [dplain, dback])
          have HP := Lib.hid (fun W => sParts z W HF.out)
          rw [hde, ← hq, ← hr] at HP
          clear hde hs hzz hc hq hr hd hdk
          go_upto_region 14 with (first | (go_at_call 51; (refine (HP.out _).mono ?_); rintro e w1 ⟨rfl, hE⟩) | fail)
          have cb : w1.cell? ⟨wr.heap.size, 0, none⟩ = some (.string s) := hE.cell' (cell_new _ _ _ 0)
          have hX := (ext1 wr _).trans' hE
          have e0 := hX.cell' d0; have e1 := hX.cell' d1; have e2 := hX.cell' d2
          have HE3 := Lib.hid (HEW.out.trans' hX)
          have lb := cell_lt cb
          clear d0 d1 d2 hX hE c0 c1 c2 c3 c4 c5
          go_quiet (fail)
          go_wp2
          go_roundw
          case rel => exact ⟨j + 1, by omega, by go_num, HE3.out.trans' (Ext.drewN' _ _)⟩
          all_goals (simp [intOf]; omega)
        · obtain rfl : j = n := by omega
          go_wp2
          go_ret
          exact ⟨rfl, HE2.out⟩
end Go.Proofs.YtcoffndnfaemoaaGreatDoor

namespace Go.Proofs.YtcoffndnfaemoaaGreatDoor
open Go Go.RowKit

theorem dstep_append_none {P : Program} {ops : Array Oper} {o : Oper} {a : Act} {w : World} {K : Act → World → Prop} {Q : Exit → Act → World → Prop} {E : Prop}
    (hg : o.guard = none) (s x : Operand) (t : TypeId) (hop : o.op = Op.call { callee := Callee.builtin Builtin.append, args := #[s, x], argTypes := #[t, t] })
    (e : TypeId) (i : TypeInfo) (h1 : P.underlying t = some (.slice e)) (h2 : P.info? e = some i) (ao ax : Option Addr) (n cap c : Nat) (hs : a.eval s = .slice ao n cap) (hx : a.eval x = .slice ax 0 c) (h : n ≤ cap)
    (hK : K (a.put o.dst (.slice ao n cap)) w) : if Region.wanted o (yielded ops a.tmps) = true then Oper.wp P o a w K Q else E := by
  have hw : Region.wanted o (yielded ops a.tmps) = true := by simp [Region.wanted, hg]
  rw [if_pos hw]
  have hrun := rows_append_none (P := P) w t o.type e i h1 h2 ao ax n cap c h
  unfold Oper.wp
  simp [execOp, hop, resolve, invoke, builtin, hs, hx, hrun, Result.andThen]
  exact hK
theorem dext_da (w : World) (o o' : Obj) (n : Nat) : Ext w (((w.alloc o).drewN n).alloc o') := ((Ext.alloc' _ _).trans' (Ext.drewN' _ _)).trans' (Ext.alloc' _ _)
theorem dext_dda (w : World) (o o' : Obj) (n : Nat) : Ext w (((w.alloc o).drewN n).drew.alloc o') := (((Ext.alloc' _ _).trans' (Ext.drewN' _ _)).trans' (Ext.drewN' _ 1)).trans' (Ext.alloc' _ _)
theorem six_da (w : World) (cs : List Value) (t : TypeId) (n : Nat) : ∀ j u, cs[j]? = some u → (((w.alloc (.cells cs.toArray t)).drewN n).alloc (.cells cs.toArray t)).cell? ((⟨w.heap.size + 1, 0, none⟩ : Addr).add j) = some u := by
  have := cells_new ((w.alloc (.cells cs.toArray t)).drewN n) cs t
  rwa [show ((w.alloc (.cells cs.toArray t)).drewN n).heap.size = w.heap.size + 1 by simp] at this
def At6 (w : World) (g : Nat) (a b c d e f : Value) : Prop := w.cell? ⟨g, 0, none⟩ = some a ∧ w.cell? ⟨g, 1, none⟩ = some b ∧ w.cell? ⟨g, 2, none⟩ = some c ∧ w.cell? ⟨g, 3, none⟩ = some d ∧ w.cell? ⟨g, 4, none⟩ = some e ∧ w.cell? ⟨g, 5, none⟩ = some f
theorem At6.ext {w w' : World} {g : Nat} {a b c d e f : Value} (h : At6 w g a b c d e f) (k : Ext w w') : At6 w' g a b c d e f := ⟨k.cell' h.1, k.cell' h.2.1, k.cell' h.2.2.1, k.cell' h.2.2.2.1, k.cell' h.2.2.2.2.1, k.cell' h.2.2.2.2.2⟩
theorem at6_new (w : World) (a b c d e f : Value) (t : TypeId) : At6 (w.alloc (.cells #[a, b, c, d, e, f] t)) w.heap.size a b c d e f := ⟨cell_new _ _ _ 0, cell_new _ _ _ 1, cell_new _ _ _ 2, cell_new _ _ _ 3, cell_new _ _ _ 4, cell_new _ _ _ 5⟩
theorem six_at (w : World) (a b c d e f : Value) (t : TypeId) (n : Nat) : At6 (((w.alloc (.cells #[a, b, c, d, e, f] t)).drewN n).alloc (.cells #[a, b, c, d, e, f] t)) w.heap.size a b c d e f := (at6_new w a b c d e f t).ext ((Ext.drewN' _ _).trans' (Ext.alloc' _ _))
theorem six_at' (w : World) (a b c d e f : Value) (t : TypeId) (n : Nat) : At6 (((w.alloc (.cells #[a, b, c, d, e, f] t)).drewN n).drew.alloc (.cells #[a, b, c, d, e, f] t)) w.heap.size a b c d e f := (at6_new w a b c d e f t).ext (((Ext.drewN' _ _).trans' (Ext.drewN' _ 1)).trans' (Ext.alloc' _ _))
theorem flat6_drop (l : List (ByteArray × Int)) (j : Nat) : flat6 (l.drop j) = (flat6 l).drop (j * 6) := by
  induction l generalizing j with
  | nil => simp [flat6]
  | cons a t ih =>
    cases j with
    | zero => simp
    | succ j =>
      rw [List.drop_succ_cons, ih, show (j + 1) * 6 = (dcell6 a).length + j * 6 by simp [dcell6]; omega, show flat6 (a :: t) = dcell6 a ++ flat6 t from rfl, List.drop_append, List.drop_eq_nil_of_le (Nat.le_add_right _ _), Nat.add_sub_cancel_left, List.nil_append]
theorem flat6_take (l : List (ByteArray × Int)) (j : Nat) : flat6 (l.take j) = (flat6 l).take (j * 6) := by
  induction l generalizing j with
  | nil => simp [flat6]
  | cons a t ih =>
    cases j with
    | zero => simp [flat6]
    | succ j =>
      rw [List.take_succ_cons, show (j + 1) * 6 = (dcell6 a).length + j * 6 by simp [dcell6]; omega, show flat6 (a :: t) = dcell6 a ++ flat6 t from rfl, show flat6 (a :: t.take j) = dcell6 a ++ flat6 (t.take j) from rfl, ih, List.take_append, List.take_of_length_le (Nat.le_add_right _ _), Nat.add_sub_cancel_left]
/-- The cells of a row's end. -/
theorem drow_part {w W : World} {g : Nat} {E : TypeId} {cur : Array Value} {out : List (ByteArray × Int)} (hb : Blk w g E cur.toList) (ht : cur.toList.take (out.length * 6) = flat6 out) (e : Ext w W) (j : Nat) (_ : j ≤ out.length) :
    ∀ i u, (flat6 (out.drop j))[i]? = some u → W.cell? ((⟨g, j * 6, none⟩ : Addr).add i) = some u := by
  intro i u hu
  rw [flat6_drop, List.getElem?_drop, ← ht, List.getElem?_take] at hu
  split at hu
  · have hadd : (⟨g, j * 6, none⟩ : Addr).add i = ⟨g, j * 6 + i, none⟩ := by unfold Addr.add; split <;> simp_all
    rw [hadd]
    exact e.cell' ((hb.cell _).trans hu)
  · cases hu
/-- The cells of a row's head. -/
theorem drow_head {w W : World} {g : Nat} {E : TypeId} {cur : Array Value} {out : List (ByteArray × Int)} (hb : Blk w g E cur.toList) (ht : cur.toList.take (out.length * 6) = flat6 out) (e : Ext w W) (j : Nat) (_ : j ≤ out.length) (b : Addr) (hB : (some (⟨g, 0, none⟩ : Addr)) = some b) :
    ∀ i u, (flat6 (out.take j))[i]? = some u → W.cell? (b.add i) = some u := by
  intro i u hu
  obtain rfl := (Option.some.inj hB).symm
  rw [flat6_take, ← ht, List.getElem?_take, List.getElem?_take] at hu
  split at hu
  · split at hu
    · have hadd : (⟨g, 0, none⟩ : Addr).add i = ⟨g, i, none⟩ := by unfold Addr.add; split <;> simp_all
      rw [hadd]
      exact e.cell' ((hb.cell _).trans hu)
    · cases hu
  · cases hu
theorem drow_fst {w : World} {g : Nat} {E : TypeId} {cur : Array Value} {out : List (ByteArray × Int)} (hb : Blk w g E cur.toList) (ht : cur.toList.take (out.length * 6) = flat6 out) (j : Nat) (hj : j < out.length) : w.cell? ⟨g, j * 6, none⟩ = some (.string out[j].1) := by
  have h1 := flat6_get out j 0 hj (by omega)
  rw [Nat.add_zero, ← ht, List.getElem?_take, if_pos (by omega)] at h1
  rw [hb.cell, h1]; rfl
theorem dins_fin {w W1 w40 : World} {base J m : Nat} {v : Value} {s : ByteArray} {z : Int} {cs : List Value} {out : List (ByteArray × Int)} (hd : dcell6 (s, z) = cs) (hE : Ext w W1)
    (h : w40.ownsRow base 53 6 v (J + (1 + m)) (flat6 (out.take J) ++ (cs ++ flat6 (out.drop J)))) (e : Ext W1 w40) (hb : w.heap.size ≤ base) :
    DeOwn w40 w.heap.size v (out.take J ++ (s, z) :: out.drop J) ∧ Ext w w40 := by
  refine ⟨?_, hE.trans' e⟩
  have hl : (out.take J ++ (s, z) :: out.drop J).length = J + (1 + m) := by
    have := h.1
    rw [← hd] at this
    simp only [List.length_append, flat6_length, List.length_cons, dcell6, List.length_nil] at this ⊢
    omega
  unfold DeOwn
  rw [hl, flat6_append, show flat6 ((s, z) :: out.drop J) = dcell6 (s, z) ++ flat6 (out.drop J) from rfl, hd]
  exact row_low h hb
theorem dins_fin0 {w W1 w40 : World} {base J : Nat} {v : Value} {s : ByteArray} {z : Int} {cs : List Value} {out : List (ByteArray × Int)} (hd : dcell6 (s, z) = cs) (hE : Ext w W1)
    (h : w40.ownsRow base 53 6 v (J + 1) (flat6 (out.take J) ++ cs)) (e : Ext W1 w40) (hb : w.heap.size ≤ base) :
    DeOwn w40 w.heap.size v (out.take J ++ [(s, z)]) ∧ Ext w w40 := by
  refine ⟨?_, hE.trans' e⟩
  have hl : (out.take J ++ [(s, z)]).length = J + 1 := by
    have := h.1
    rw [← hd] at this
    simp only [List.length_append, flat6_length, List.length_cons, dcell6, List.length_nil] at this ⊢
    omega
  unfold DeOwn
  rw [hl, flat6_append, show flat6 [(s, z)] = dcell6 (s, z) by simp [flat6], hd]
  exact row_low h hb
theorem dins_perm {l out : List (ByteArray × Int)} {k : Nat} {s : ByteArray} {z : Int} (hk : k < l.length) (hp : out.Perm (l.take k)) (he : l[k] = (s, z)) (J : Nat) : (out.take J ++ (s, z) :: out.drop J).Perm (l.take (k + 1)) := by
  rw [List.take_succ_eq_append_getElem hk, he]
  refine List.perm_middle.trans ?_
  rw [List.take_append_drop]
  exact (List.Perm.cons _ hp).trans (List.perm_append_singleton _ _).symm
theorem dins_perm0 {l out : List (ByteArray × Int)} {k : Nat} {s : ByteArray} {z : Int} {J : Nat} (hk : k < l.length) (hp : out.Perm (l.take k)) (he : l[k] = (s, z)) (hJ : out.length ≤ J) : (out.take J ++ [(s, z)]).Perm (l.take (k + 1)) := by
  have := dins_perm hk hp he J
  rwa [List.drop_eq_nil_of_le hJ] at this
theorem dins_pair {out : List (ByteArray × Int)} {J : Nat} {s : ByteArray} {z : Int} (h : out.Pairwise fun a b => le a.1 b.1) (hq : ∀ p, (hp : p < out.length) → J ≤ p → keyLt s out[p].1 = true) (hlo : ∀ p, (hp : p < out.length) → p < J → le out[p].1 s) (_ : J ≤ out.length) :
    (out.take J ++ (s, z) :: out.drop J).Pairwise fun a b => le a.1 b.1 := by
  have h1 : ∀ a ∈ out.take J, le a.1 s := fun a ha => by
    obtain ⟨p, hp, rfl⟩ := List.getElem_of_mem ha
    simp at hp
    rw [List.getElem_take]; exact hlo p (by omega) (by omega)
  have h2 : ∀ b ∈ out.drop J, le s b.1 := fun b hb => by
    obtain ⟨p, hp, rfl⟩ := List.getElem_of_mem hb
    simp at hp
    rw [List.getElem_drop]; exact le_of_lt (hq _ (by omega) (by omega))
  rw [List.pairwise_append]
  refine ⟨h.sublist (List.take_sublist _ _), ?_, ?_⟩
  · rw [List.pairwise_cons]
    exact ⟨h2, h.sublist (List.drop_sublist _ _)⟩
  · intro a ha b hb
    rcases List.mem_cons.1 hb with rfl | hb
    · exact h1 a ha
    · exact le_trans (h1 a ha) (h2 b hb)
theorem dins_pair0 {out : List (ByteArray × Int)} {J : Nat} {s : ByteArray} {z : Int} (h : out.Pairwise fun a b => le a.1 b.1) (hlo : ∀ p, (hp : p < out.length) → p < J → le out[p].1 s) (hJ : out.length ≤ J) :
    (out.take J ++ [(s, z)]).Pairwise fun a b => le a.1 b.1 := by
  rw [List.take_of_length_le hJ, List.pairwise_append]
  refine ⟨h, List.pairwise_singleton _ _, fun a ha b hb => ?_⟩
  rw [List.mem_singleton] at hb; subst hb
  obtain ⟨p, hp, rfl⟩ := List.getElem_of_mem ha
  exact hlo p hp (by omega)
theorem six_one' (l : List (ByteArray × Int)) : ∀ u ∈ flat6 l, u.oneCell' = true := by
  intro u hu
  obtain ⟨p, hp, hu⟩ := List.mem_flatMap.1 hu
  exact dcell6_one p u hu
/-- One of a list, its words named, with its cells. -/
theorem de_cells {w : World} {g o k : Nat} {s : ByteArray} {z : Int} (h : w.cell? ⟨g, o + k * 6, none⟩ = some (.string s) ∧ w.cell? ⟨g, o + k * 6 + 1, none⟩ = some (.bool (decide (z < 0))) ∧ w.cell? ⟨g, o + k * 6 + 2, none⟩ = some (dw z.natAbs 0) ∧ w.cell? ⟨g, o + k * 6 + 3, none⟩ = some (dw z.natAbs 1) ∧ w.cell? ⟨g, o + k * 6 + 4, none⟩ = some (dw z.natAbs 2) ∧ w.cell? ⟨g, o + k * 6 + 5, none⟩ = some (dw z.natAbs 3)) :
    ∃ (b : Bool) (x0 x1 x2 x3 : Nat), dcell6 (s, z) = [.string s, .bool b, .int .u64 x0, .int .u64 x1, .int .u64 x2, .int .u64 x3] ∧ de z = .agg #[.bool b, .int .u64 x0, .int .u64 x1, .int .u64 x2, .int .u64 x3] ∧ w.cell? ⟨g, o + k * 6, none⟩ = some (.string s) ∧ w.cell? ⟨g, o + k * 6 + 1, none⟩ = some (.bool b) ∧ w.cell? ⟨g, o + k * 6 + 2, none⟩ = some (.int .u64 x0) ∧ w.cell? ⟨g, o + k * 6 + 3, none⟩ = some (.int .u64 x1) ∧ w.cell? ⟨g, o + k * 6 + 4, none⟩ = some (.int .u64 x2) ∧ w.cell? ⟨g, o + k * 6 + 5, none⟩ = some (.int .u64 x3) :=
  ⟨_, _, _, _, _, rfl, rfl, h⟩

end Go.Proofs.YtcoffndnfaemoaaGreatDoor

namespace Go.Proofs.YtcoffndnfaemoaaGreatDoor
open Go Go.RowKit

/-- The last record of a row: its cells, and its number overwritten. -/
theorem de_last {w : World} {base : Nat} {v : Value} {ini : List (ByteArray × Int)} {s : ByteArray} {y : Int} (h : DeOwn w base v (ini ++ [(s, y)])) :
    ∃ g c cs, v = .slice (some ⟨g, 0, none⟩) (ini.length + 1) c ∧ base ≤ g ∧ Blk w g 53 cs ∧ (∀ i, i < 6 → cs[ini.length * 6 + i]? = (dcell6 (s, y))[i]?) ∧
      ∀ (w1 : World) (z : Int) (b0 b1 b2 b3 b4 : Value), dcell6 (s, z) = [.string s, b0, b1, b2, b3, b4] → Blk w1 g 53 (((((cs.set (ini.length * 6 + 1) b0).set (ini.length * 6 + 2) b1).set (ini.length * 6 + 3) b2).set (ini.length * 6 + 4) b3).set (ini.length * 6 + 5) b4) → DeOwn w1 base v (ini ++ [(s, z)]) := by
  unfold DeOwn at h
  rcases h.2 with ⟨_, h0⟩ | ⟨g, cap, cur, hv, hb, hh, hnc, hcm, hcs, ht⟩
  · simp at h0
  · have hlen : (ini ++ [(s, y)]).length = ini.length + 1 := by simp
    rw [hlen] at hv hnc ht
    have hk : Blk w g 53 cur.toList := by unfold Blk; simpa using hh
    have hfl : (flat6 ini).length = ini.length * 6 := flat6_length _
    have hflat : ∀ z, flat6 (ini ++ [(s, z)]) = flat6 ini ++ dcell6 (s, z) := fun z => by rw [flat6_append]; simp [flat6]
    rw [hflat] at ht
    refine ⟨g, cap, cur.toList, hv, hb, hk, fun i hi => ?_, fun w1 z b0 b1 b2 b3 b4 hz hk1 => ?_⟩
    · have := congrArg (fun l => l[ini.length * 6 + i]?) ht
      rw [List.getElem?_take, if_pos (by omega), List.getElem?_append_right (by omega), hfl, Nat.add_sub_cancel_left] at this
      exact this
    · refine ⟨by rw [flat6_length], Or.inr ⟨g, cap, (((((cur.toList.set (ini.length * 6 + 1) b0).set (ini.length * 6 + 2) b1).set (ini.length * 6 + 3) b2).set (ini.length * 6 + 4) b3).set (ini.length * 6 + 5) b4).toArray, by simpa using hv, hb, by unfold Blk at hk1; simpa using hk1, by simpa using hnc, hcm, by simpa using hcs, ?_⟩⟩
      rw [show (ini ++ [(s, z)]).length * 6 = (ini.length + 1) * 6 by simp, List.toList_toArray, List.take_set, List.take_set, List.take_set, List.take_set, List.take_set, ht, hflat, hz, List.set_append_right _ _ (by omega), List.set_append_right _ _ (by omega), List.set_append_right _ _ (by omega), List.set_append_right _ _ (by omega), List.set_append_right _ _ (by omega), hfl, Nat.add_sub_cancel_left, Nat.add_sub_cancel_left, Nat.add_sub_cancel_left, Nat.add_sub_cancel_left, Nat.add_sub_cancel_left]
      rfl
theorem five_put {w : World} {g : Nat} {t : TypeId} {cs : List Value} (h : Blk w g t cs) (n : Nat) (a b c d e : Value) : Blk (((((w.setCell ⟨g, n * 6 + 1, none⟩ a).setCell ⟨g, n * 6 + 1 + 1, none⟩ b).setCell ⟨g, n * 6 + 1 + 2, none⟩ c).setCell ⟨g, n * 6 + 1 + 3, none⟩ d).setCell ⟨g, n * 6 + 1 + 4, none⟩ e) g t (((((cs.set (n * 6 + 1) a).set (n * 6 + 2) b).set (n * 6 + 3) c).set (n * 6 + 4) d).set (n * 6 + 5) e) :=
  ((((h.set_ _ a).set_ _ b).set_ _ c).set_ _ d).set_ _ e
theorem five_only (g : Nat) (w : World) (n : Nat) (a b c d e : Value) : Only g w (((((w.setCell ⟨g, n * 6 + 1, none⟩ a).setCell ⟨g, n * 6 + 1 + 1, none⟩ b).setCell ⟨g, n * 6 + 1 + 2, none⟩ c).setCell ⟨g, n * 6 + 1 + 3, none⟩ d).setCell ⟨g, n * 6 + 1 + 4, none⟩ e) :=
  (((((Only.refl _ _).set_ _ _).set_ _ _).set_ _ _).set_ _ _).set_ _ _
theorem dini_last {out : List (ByteArray × Int)} (h : out ≠ []) : ∃ ini s y, out = ini ++ [(s, y)] := ⟨out.dropLast, (out.getLast h).1, (out.getLast h).2, (List.dropLast_concat_getLast h).symm⟩
theorem dtake_le {r : List (ByteArray × Int)} {k : Nat} {s : ByteArray} {z : Int} (h : r.Pairwise fun a b => le a.1 b.1) (hk : k < r.length) (he : r[k] = (s, z)) : ∀ y ∈ r.take k, le y.1 (s, z).1 := by
  intro y hy
  obtain ⟨j, hj, rfl⟩ := List.getElem_of_mem hy
  simp at hj
  rw [List.getElem_take, ← he]
  exact List.pairwise_iff_getElem.1 h j k (by omega) hk (by omega)
theorem dtot_bound {p out : List (ByteArray × Int)} (h : TotI p out) (hb : ∀ x ∈ p, x.2.natAbs < B64 ^ 2) (hl : p.length ≤ 100000) : ∀ y ∈ out, y.2.natAbs ≤ 100000 * B64 ^ 2 := by
  intro y hy
  rw [h.2.2 y hy]
  refine Nat.le_trans (totalP_bound' y.1 (m := B64 ^ 2) (fun x hx => Nat.le_of_lt (hb x hx))) (Nat.mul_le_mul_right _ hl)
theorem big4 {y z : Int} (h : y.natAbs ≤ 100000 * B64 ^ 2) (k : z.natAbs < B64 ^ 2) : y.natAbs + z.natAbs < B64 ^ 4 := by
  have : 100001 * B64 ^ 2 ≤ B64 ^ 4 := by unfold B64; decide
  omega
theorem big4' {y : Int} (h : y.natAbs ≤ 100000 * B64 ^ 2) : y.natAbs < B64 ^ 4 := by
  have : 100001 * B64 ^ 2 ≤ B64 ^ 4 := by unfold B64; decide
  have : 0 < B64 ^ 2 := by unfold B64; decide
  omega
/-- A number, its words named. -/
theorem de_names (s : ByteArray) (z : Int) : ∃ (b : Bool) (x0 x1 x2 x3 : Nat), dcell6 (s, z) = [.string s, .bool b, .int .u64 x0, .int .u64 x1, .int .u64 x2, .int .u64 x3] ∧ de z = .agg #[.bool b, .int .u64 x0, .int .u64 x1, .int .u64 x2, .int .u64 x3] :=
  ⟨_, _, _, _, _, rfl, rfl⟩
theorem isAdd_perm' {l m r : List (ByteArray × Int)} (hp : l.Perm m) (h : IsAdd l r) : SumsTo m r := isAdd_sums (isAdd_perm hp h)

end Go.Proofs.YtcoffndnfaemoaaGreatDoor

namespace Go.Proofs.YtcoffndnfaemoaaGreatDoor
open Go Go.RowKit

/-- What the question hands back. -/
def RetAp (l : List (ByteArray × Int)) (w : World) (e : Ending) (w' : World) : Prop := ∃ b : Bool, e = .returned (.bool b) ∧ (b = true → AscP l) ∧ Ext w w'
theorem ascP_of {l : List (ByteArray × Int)} (h : ∀ j, (hj : j + 1 < l.length) → keyLt l[j].1 l[j + 1].1 = true) : AscP l := by
  refine List.pairwise_iff_getElem.2 fun i j hi hj hij => ?_
  obtain ⟨d, rfl⟩ : ∃ d, j = i + 1 + d := ⟨j - i - 1, by omega⟩
  clear hij
  induction d with
  | zero => exact h i hj
  | succ d ih => exact keyLt_trans (ih (by omega)) (h (i + 1 + d) hj)

set_option maxRecDepth 100000 in
set_option maxHeartbeats 1000000 in
theorem sDeApart (A : Option Addr) (n c : Nat) (l : List (ByteArray × Int)) (w : World) (hl : l.length = n) (hn : n ≤ 1000000) (h : DeAt w A l) :
    Calls Tryz.prog 44 #[.slice A n c] w (RetAp l w) := by
  have HL := Lib.hid hl; have HP := Lib.hid h
  clear hl h
  go_enter Tryz.func44, Tryz.ntmps44
  go_wp2
  go_loopw [3] (fun i wr => ∃ (k : Nat), (k ≤ n ∨ k = 1) ∧ 1 ≤ k ∧ i = .int .i64 k ∧ Ext w wr ∧ ∀ j, (hj : j + 1 < l.length) → j + 1 < k → keyLt l[j].1 l[j + 1].1 = true) (fun i _ => n + 1 - (intOf i).toNat)
  case atStart => exact ⟨1, Or.inr rfl, Nat.le_refl _, rfl, Ext.refl _, fun j _ h => by omega⟩
  case round =>
    obtain ⟨k, hk, hk1, rfl, hE, hq⟩ := hrel
    have HQ := Lib.hid hq; have HE := Lib.hid hE; clear hq hE
    by_cases hlt : k < n
    · obtain ⟨m, rfl⟩ : ∃ m, k = m + 1 := ⟨k - 1, by omega⟩
      have hkl : m + 1 < l.length := by rw [HL.out]; exact hlt
      obtain ⟨s, hs⟩ : ∃ s, s = l[m].1 := ⟨_, rfl⟩
      obtain ⟨t, ht⟩ : ∃ t, t = l[m + 1].1 := ⟨_, rfl⟩
      obtain ⟨g, o, hA, hc⟩ := HP.out (by intro e; rw [e] at hkl; simp at hkl)
      subst hA
      have cs0 : wr.cell? ⟨g, o + m * 6, none⟩ = some (.string s) := HE.out.cell' (by have := hc m (by omega) 0 (.string l[m].1) rfl; rw [hs]; exact this)
      have cs1 : wr.cell? ⟨g, o + (m + 1) * 6, none⟩ = some (.string t) := HE.out.cell' (by have := hc (m + 1) hkl 0 (.string l[m + 1].1) rfl; rw [ht]; exact this)
      have HS := Lib.hid hs; have HT := Lib.hid ht; clear hs ht hc hk
      have b0 : (0 : Int) ≤ (m : Int) := by omega
      have b1 : (m : Int) < (n : Int) := by omega
      have b2 : (m : Int) + 1 < (n : Int) := by omega
      by_cases hgt : keyLt s t = true
      · have HG := Lib.hid hgt
        have g1 : Op.bytesLess t.toList s.toList = false := keyLt_asymm hgt
        have g2 : (t.toList == s.toList) = false := by rw [key_beq]; simp; intro e; subst e; rw [keyLt_irrefl] at hgt; cases hgt
        clear hgt
        go_wp2
        go_quiet (fail)
        go_wp2
        go_roundw
        case rel =>
          refine ⟨m + 1 + 1, by omega, by omega, by go_num, HE.out.trans' (Ext.drewN' _ _), fun j hj hjk => ?_⟩
          by_cases e : j = m
          · subst e; rw [← HS.out, ← HT.out]; exact HG.out
          · exact HQ.out j hj (by omega)
        case measure => simp [intOf]; omega
      · have hgt' : keyLt s t = false := by simpa using hgt
        have hh : Op.bytesLess t.toList s.toList = true ∨ t = s := by
          cases e : Op.bytesLess t.toList s.toList
          · exact Or.inr (keyLt_tri e hgt')
          · exact Or.inl rfl
        clear hgt hgt'
        rcases hh with hh | hh
        · go_wp2
          go_quiet (fail)
          go_wp2
          go_ret
          exact ⟨false, rfl, by simp, HE.out.trans' (Ext.drewN' _ _)⟩
        · subst hh
          go_wp2
          go_quiet (fail)
          go_wp2
          go_ret
          exact ⟨false, rfl, by simp, HE.out.trans' (Ext.drewN' _ _)⟩
    · go_wp2
      go_ret
      exact ⟨true, rfl, fun _ => ascP_of fun j hj => HQ.out j hj (by rw [HL.out] at hj; omega), HE.out⟩

/-- What deciApart hands back. -/
def RetApN (l : List DP) (w : World) (e : Ending) (w' : World) : Prop := ∃ b : Bool, e = .returned (.bool b) ∧ (b = true → l.length ≤ 12 ∧ (∀ x ∈ l, x.1.size ≤ 130 ∧ DecN x.2.1 x.2.2) ∧ AscP (l.map dval)) ∧ Ext w w'
set_option maxRecDepth 100000 in
set_option maxHeartbeats 1000000 in
theorem lDeciApartN (A : Option Addr) (n c : Nat) (l : List DP) (w : World) (hl : l.length = n) (hn : n ≤ 9223372036854775807) (h : DPlainAt w A l) :
    Calls Tryz.prog 12 #[.slice A n c] w (RetApN l w) := by
  have H1 := Lib.hid (dFew A n c l w hl hn h)
  obtain ⟨b, hb⟩ : ∃ b, b = fewB l := ⟨_, rfl⟩
  rw [← hb] at H1
  have HB := Lib.hid hb; have HL := Lib.hid hl; have HP := Lib.hid h
  clear hb hl h
  go_enter Tryz.func12, Tryz.ntmps12
  go_wp2_with (fail)
  go_at_call 23
  refine H1.out.mono ?_
  rintro e w1 ⟨rfl, hE⟩
  have HE1 := Lib.hid hE; clear hE
  cases b
  · go_wp2
    go_ret
    exact ⟨false, rfl, by simp, HE1.out⟩
  · have HM := Lib.hid (fewB_memN HB.out.symm)
    have H2 := Lib.hid (lDeciOf A n c l w1 HL.out (by have := HM.out.1; have := HL.out; omega) (HP.out.ext HE1.out) (fun x hx => (HM.out.2 x hx).2.decB))
    go_wp2_with (fail)
    go_at_call 19
    refine H2.out.mono ?_
    rintro e w2 ⟨v2, rfl, hown, hE⟩
    obtain ⟨A2, c2, rfl, _, hat⟩ := de_slice (n := n) hown (by rw [List.length_map]; exact HL.out)
    have H3 := Lib.hid (sDeApart A2 n c2 (l.map dval) w2 (by rw [List.length_map]; exact HL.out) (by have := HM.out.1; have := HL.out; omega) hat)
    have HE2 := Lib.hid (HE1.out.trans' hE)
    clear hown hat hE
    go_wp2_with (fail)
    go_at_call 44
    refine H3.out.mono ?_
    rintro e w3 ⟨b3, rfl, hb3, hE⟩
    have HB3 := Lib.hid hb3; have HE3 := Lib.hid (HE2.out.trans' hE)
    clear hb3 hE
    go_wp2
    go_ret
    exact ⟨b3, rfl, fun h => ⟨HM.out.1, HM.out.2, HB3.out h⟩, HE3.out⟩
def RetAp' (l : List DP) (w : World) (e : Ending) (w' : World) : Prop := ∃ b : Bool, e = .returned (.bool b) ∧ (b = true → l.length ≤ 12 ∧ (∀ x ∈ l, DecB x.2.1 x.2.2) ∧ AscP (l.map dval)) ∧ Ext w w'
theorem lDeciApart (A : Option Addr) (n c : Nat) (l : List DP) (w : World) (hl : l.length = n) (hn : n ≤ 9223372036854775807) (h : DPlainAt w A l) :
    Calls Tryz.prog 12 #[.slice A n c] w (RetAp' l w) :=
  (lDeciApartN A n c l w hl hn h).mono fun _ _ ⟨b, e, h, hE⟩ => ⟨b, e, fun hb => ⟨(h hb).1, fun x hx => ((h hb).2.1 x hx).2.decB, (h hb).2.2⟩, hE⟩
end Go.Proofs.YtcoffndnfaemoaaGreatDoor
