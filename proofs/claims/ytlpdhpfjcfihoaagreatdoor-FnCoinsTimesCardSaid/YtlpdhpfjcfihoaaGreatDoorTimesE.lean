/-
  Contracts of impl.MulOf and impl.QuoOf of coins that are in order.
-/
import Derived.Test.YtlpdhpfjcfihoaaGreatDoorTimesD
import Derived.Test.YtlpdhpfjcfihoaaGreatDoorGG
namespace Go.Proofs.YtlpdhpfjcfihoaaGreatDoor
open Go Go.RowKit

/-- Nothing and false. -/
def RetNo (w : World) (e : Ending) (w' : World) : Prop := e = .returned (.tuple #[.slice none 0 0, .bool false]) ∧ Ext w w'

set_option maxRecDepth 100000 in
theorem tMulNo (A : Option Addr) (n c : Nat) (nb : Nat) (w : World) (hm : BigAt w nb 0) :
    Calls Tryz.prog 66 #[.slice A n c, .agg #[.pointer (some ⟨nb, 0, none⟩)]] w (RetNo w) := by
  have HI := Lib.hid (mIsZero nb 0 _ (hm.ext (ext1 w (intBox nb))))
  rw [show (sgn (0 : Int) == 0) = true from rfl] at HI
  clear hm
  go_enter Tryz.func66, Tryz.ntmps66
  go_wp2_with (go_at_call 111; refine HI.out.mono ?_; rintro e w0 ⟨rfl, hE⟩; have HE0 := Lib.hid hE; clear hE)
  go_ret2
  exact ⟨rfl, (ext1 w (intBox nb)).trans' HE0.out⟩
set_option maxRecDepth 100000 in
theorem tQuoNo (A : Option Addr) (n c : Nat) (nb : Nat) (w : World) (hm : BigAt w nb 0) :
    Calls Tryz.prog 69 #[.slice A n c, .agg #[.pointer (some ⟨nb, 0, none⟩)]] w (RetNo w) := by
  have HI := Lib.hid (mIsZero nb 0 _ (hm.ext (ext1 w (intBox nb))))
  rw [show (sgn (0 : Int) == 0) = true from rfl] at HI
  clear hm
  go_enter Tryz.func69, Tryz.ntmps69
  go_wp2_with (go_at_call 111; refine HI.out.mono ?_; rintro e w0 ⟨rfl, hE⟩; have HE0 := Lib.hid hE; clear hE)
  go_ret2
  exact ⟨rfl, (ext1 w (intBox nb)).trans' HE0.out⟩

set_option maxRecDepth 100000 in
theorem iMulOfNo (A : Option Addr) (n c : Nat) (l : List (ByteArray × Int)) (w : World) (hl : l.length = n) (hn : n ≤ 100000) (h : PlainAt w A l) (hz : SoundL l) :
    Calls Tryz.prog 16 #[.slice A n c, .int .i64 0] w (RetNo w) := by
  have HS := Lib.hid (iSound A n c l w hl (by omega) h hz)
  have HC := Lib.hid (fun W (e : Ext w W) => iCoins A n c l W hl (by omega) (h.ext e) (fun x hx => by have := hz x hx; exact ⟨by unfold maxI; omega, this.2.2.2⟩))
  clear hl h hz
  go_enter Tryz.func16, Tryz.ntmps16
  go_wp2_with (first
    | (go_at_call 64; refine HS.out.mono ?_; rintro e w1 ⟨rfl, hE⟩; have HE1 := Lib.hid hE; clear hE)
    | (go_at_call 65; refine (HC.out _ (by exact HE1.out)).mono ?_; rintro e w2 ⟨v, cs, rfl, hcv, hown, hE⟩; obtain ⟨A1, c1, rfl⟩ := coins_shape hown; have HE2 := Lib.hid (HE1.out.trans' hE); clear hcv hown hE)
    | (go_at_call 67; refine (mNewInt 0 _ (by unfold maxI; omega) (by unfold maxI; omega)).mono ?_; rintro e w3 ⟨nb, rfl, hB, hE⟩; have HB := Lib.hid hB; have HE3 := Lib.hid (HE2.out.trans' hE); clear hB hE)
    | (go_at_call 66; refine (tMulNo _ _ _ nb _ (by exact HB.out)).mono ?_; rintro e w4 ⟨rfl, hE⟩; have HE4 := Lib.hid (HE3.out.trans' hE); clear hE))
  go_ret2
  exact ⟨rfl, HE4.out⟩
set_option maxRecDepth 100000 in
theorem iQuoOfNo (A : Option Addr) (n c : Nat) (l : List (ByteArray × Int)) (w : World) (hl : l.length = n) (hn : n ≤ 100000) (h : PlainAt w A l) (hz : SoundL l) :
    Calls Tryz.prog 18 #[.slice A n c, .int .i64 0] w (RetNo w) := by
  have HS := Lib.hid (iSound A n c l w hl (by omega) h hz)
  have HC := Lib.hid (fun W (e : Ext w W) => iCoins A n c l W hl (by omega) (h.ext e) (fun x hx => by have := hz x hx; exact ⟨by unfold maxI; omega, this.2.2.2⟩))
  clear hl h hz
  go_enter Tryz.func18, Tryz.ntmps18
  go_wp2_with (first
    | (go_at_call 64; refine HS.out.mono ?_; rintro e w1 ⟨rfl, hE⟩; have HE1 := Lib.hid hE; clear hE)
    | (go_at_call 65; refine (HC.out _ (by exact HE1.out)).mono ?_; rintro e w2 ⟨v, cs, rfl, hcv, hown, hE⟩; obtain ⟨A1, c1, rfl⟩ := coins_shape hown; have HE2 := Lib.hid (HE1.out.trans' hE); clear hcv hown hE)
    | (go_at_call 67; refine (mNewInt 0 _ (by unfold maxI; omega) (by unfold maxI; omega)).mono ?_; rintro e w3 ⟨nb, rfl, hB, hE⟩; have HB := Lib.hid hB; have HE3 := Lib.hid (HE2.out.trans' hE); clear hB hE)
    | (go_at_call 69; refine (tQuoNo _ _ _ nb _ (by exact HB.out)).mono ?_; rintro e w4 ⟨rfl, hE⟩; have HE4 := Lib.hid (HE3.out.trans' hE); clear hE))
  go_ret2
  exact ⟨rfl, HE4.out⟩

/-- Plain coins and true handed back, in a row of the call's own. -/
theorem back_low {l : List (ByteArray × Int)} {w w1 : World} {e : Ending} {w' : World} (hE : Ext w w1) (h : RetBack l w1 e w') : RetBack l w e w' := by
  obtain ⟨v, rfl, ho, hE2⟩ := h
  exact ⟨v, rfl, owns_low ho hE.size, hE.trans' hE2⟩
theorem map_val {cs : List Co} {l : List (ByteArray × Int)} (h : cs.map Co.val = l) (f : Int → Int) : cs.map (fun c => (c.s, f c.z)) = l.map (fun x => (x.1, f x.2)) := by
  rw [← h, List.map_map]; rfl
theorem sound_co {cs : List Co} {l : List (ByteArray × Int)} (h : cs.map Co.val = l) (hz : SoundL l) : ∀ x ∈ cs, denomB x.s = true ∧ x.s.size ≤ 9223372036854775807 ∧ 0 ≤ x.z ∧ x.z ≤ maxI := fun x hx => hz (x.s, x.z) (by rw [← h]; exact List.mem_map.2 ⟨x, hx, rfl⟩)
theorem big_lt {w : World} {b : Nat} {z : Int} (h : BigAt w b z) : b < w.heap.size := by
  obtain ⟨A, c, ws, neg, hb, _⟩ := h
  exact hb.lt

set_option maxRecDepth 100000 in
theorem iMulOf (A : Option Addr) (n c : Nat) (l : List (ByteArray × Int)) (m : Int) (w : World) (hl : l.length = n) (hn : n ≤ 100000) (h : PlainAt w A l) (hz : SoundL l) (hm0 : 0 < m) (hm1 : m ≤ maxI) (hp : ∀ x ∈ l, x.2 * m ≤ maxI) :
    Calls Tryz.prog 16 #[.slice A n c, .int .i64 m] w (RetBack (l.map (fun x => (x.1, x.2 * m))) w) := by
  have HS := Lib.hid (iSound A n c l w hl (by omega) h hz)
  have HC := Lib.hid (fun W (e : Ext w W) => iCoins A n c l W hl (by omega) (h.ext e) (fun x hx => by have := hz x hx; exact ⟨by unfold maxI; omega, this.2.2.2⟩))
  have HL := Lib.hid hl; have HZ := Lib.hid hz; have HPP := Lib.hid hp
  clear hl h hz hp
  have e1 : ¬ m < 0 := by omega
  go_enter Tryz.func16, Tryz.ntmps16
  go_wp2_with (first
    | (go_at_call 64; refine HS.out.mono ?_; rintro e w1 ⟨rfl, hE⟩; have HE1 := Lib.hid hE; clear hE)
    | (go_at_call 65; refine (HC.out _ (by exact HE1.out)).mono ?_; rintro e w2 ⟨v, cs, rfl, hcv, hown, hE⟩; obtain ⟨A1, c1, rfl⟩ := coins_shape hown; have HO := Lib.hid (own_at hown).1; have HV := Lib.hid hcv; have HE2 := Lib.hid (HE1.out.trans' hE); clear hcv hown hE)
    | (go_at_call 67; refine (mNewIntF m _ (by omega) hm1).mono ?_; rintro e w3 ⟨nb, rfl, hB, hE, hf⟩; have HF := Lib.hid hf; have HB := Lib.hid hB; have HO3 := Lib.hid (HO.out.ext hE); have HE3 := Lib.hid (HE2.out.trans' hE); clear hB hE hf)
    | (go_at_call 66; refine (tSafeMulInt A1 cs.length c1 cs nb m _ rfl (by have := congrArg List.length HV.out; have := HL.out; simp at *; omega) (by exact HO3.out) (by exact HB.out) hm0 (by unfold maxI at hm1; unfold B64; omega) (fun x hx => by
        have hs := sound_co HV.out HZ.out x hx
        have h1 := HPP.out (x.s, x.z) (by rw [← HV.out]; exact List.mem_map.2 ⟨x, hx, rfl⟩)
        have h2 := Int.mul_nonneg hs.2.2.1 (Int.le_of_lt hm0)
        have h3 := big_lt (HO.out.2 x hx)
        have h4 := HF.out
        unfold maxI at *
        exact ⟨hs.1, hs.2.1, hs.2.2.1, by unfold B64; omega, by unfold B64; dsimp only at h1; omega, by omega⟩)).mono ?_; rintro e w4 ⟨A4, L, rfl, hat, hv, hE⟩; have HA4 := Lib.hid hat; have HV4 := Lib.hid (hv.trans (map_val HV.out (fun z => z * m))); have HE4 := Lib.hid (HE3.out.trans' hE); clear hat hv hE)
    | (go_at_call 68; refine (iBackCoins A4 L.length L.length L _ rfl (by have := congrArg List.length HV4.out; have := HL.out; simp at *; omega) (by exact HA4.out) (fun x hx => by
        have h1 : (x.s, x.z) ∈ l.map (fun x => (x.1, x.2 * m)) := by rw [← HV4.out]; exact List.mem_map.2 ⟨x, hx, rfl⟩
        obtain ⟨y, hy, he⟩ := List.mem_map.1 h1
        injection he with _ he
        have h2 := HPP.out y hy
        have h3 := Int.mul_nonneg (HZ.out y hy).2.2.1 (Int.le_of_lt hm0)
        rw [he] at h2 h3
        exact ⟨by unfold maxI; omega, h2⟩)).mono ?_; rintro e w5 ⟨v, rfl, hr, hE⟩; have HR := Lib.hid (And.intro hr hE); clear hr hE))
  go_ret2
  rw [← HV4.out]
  exact back_low HE4.out ⟨v, rfl, HR.out⟩

set_option maxRecDepth 100000 in
theorem iQuoOf (A : Option Addr) (n c : Nat) (l : List (ByteArray × Int)) (m : Int) (w : World) (hl : l.length = n) (hn : n ≤ 100000) (h : PlainAt w A l) (hz : SoundL l) (hm0 : 0 < m) (hm1 : m ≤ maxI) :
    Calls Tryz.prog 18 #[.slice A n c, .int .i64 m] w (RetBack (l.map (fun x => (x.1, Int.tdiv x.2 m))) w) := by
  have HS := Lib.hid (iSound A n c l w hl (by omega) h hz)
  have HC := Lib.hid (fun W (e : Ext w W) => iCoins A n c l W hl (by omega) (h.ext e) (fun x hx => by have := hz x hx; exact ⟨by unfold maxI; omega, this.2.2.2⟩))
  have HL := Lib.hid hl; have HZ := Lib.hid hz
  clear hl h hz
  have e1 : ¬ m < 0 := by omega
  go_enter Tryz.func18, Tryz.ntmps18
  go_wp2_with (first
    | (go_at_call 64; refine HS.out.mono ?_; rintro e w1 ⟨rfl, hE⟩; have HE1 := Lib.hid hE; clear hE)
    | (go_at_call 65; refine (HC.out _ (by exact HE1.out)).mono ?_; rintro e w2 ⟨v, cs, rfl, hcv, hown, hE⟩; obtain ⟨A1, c1, rfl⟩ := coins_shape hown; have HO := Lib.hid (own_at hown).1; have HV := Lib.hid hcv; have HE2 := Lib.hid (HE1.out.trans' hE); clear hcv hown hE)
    | (go_at_call 67; refine (mNewIntF m _ (by omega) hm1).mono ?_; rintro e w3 ⟨nb, rfl, hB, hE, hf⟩; have HB := Lib.hid hB; have HO3 := Lib.hid (HO.out.ext hE); have HE3 := Lib.hid (HE2.out.trans' hE); clear hB hE hf)
    | (go_at_call 69; refine (tSafeQuoInt A1 cs.length c1 cs nb m _ rfl (by have := congrArg List.length HV.out; have := HL.out; simp at *; omega) (by exact HO3.out) (by exact HB.out) hm0 (by unfold maxI at hm1; unfold B64; omega) (fun x hx => by
        have hs := sound_co HV.out HZ.out x hx
        unfold maxI at *
        exact ⟨hs.1, hs.2.1, hs.2.2.1, by unfold B64; omega⟩)).mono ?_; rintro e w4 ⟨v4, L, rfl, hown, hv, hE⟩; obtain ⟨A4, c4, rfl⟩ := coins_shape hown; have HA4 := Lib.hid (own_at hown).1; have HV4 := Lib.hid (hv.trans (map_val HV.out (fun z => Int.tdiv z m))); have HE4 := Lib.hid (HE3.out.trans' hE); clear hown hv hE)
    | (go_at_call 68; refine (iBackCoins A4 L.length c4 L _ rfl (by have := congrArg List.length HV4.out; have := HL.out; simp at *; omega) (by exact HA4.out) (fun x hx => by
        have h1 : (x.s, x.z) ∈ l.map (fun x => (x.1, Int.tdiv x.2 m)) := by rw [← HV4.out]; exact List.mem_map.2 ⟨x, hx, rfl⟩
        obtain ⟨y, hy, he⟩ := List.mem_map.1 h1
        injection he with _ he
        have hy1 := HZ.out y hy
        have h2 : Int.tdiv y.2 m ≤ y.2 := Int.tdiv_le_self _ hy1.2.2.1
        have h3 := Int.tdiv_nonneg hy1.2.2.1 (Int.le_of_lt hm0)
        rw [he] at h2 h3
        exact ⟨by unfold maxI; omega, Int.le_trans h2 hy1.2.2.2⟩)).mono ?_; rintro e w5 ⟨v, rfl, hr, hE⟩; have HR := Lib.hid (And.intro hr hE); clear hr hE))
  go_ret2
  rw [← HV4.out]
  exact back_low HE4.out ⟨v, rfl, HR.out⟩
end Go.Proofs.YtlpdhpfjcfihoaaGreatDoor
