/-
  Blocks of machine words known whole, and what is written over a part of them. Plain lemmas.
  Long division of natural numbers, digit by digit: plain lemmas.
  The contracts of bits.Mul, bits.LeadingZeros (off the shelf), of bigall's mulWW, mulAddWWW and nlz.
  Contracts of bigall's vector loops at any offset, in place or not: mulAddVWW, addMulVVWW, addVV, subVV.
  Numbers with the room they own: contracts of nat's make, setWord, norm at any receiver.
  The contract of bigall's alias.
  Contracts of nat's mulAddWW, and of mul by one word.
  Contracts of nat's mul where one factor has one word at most; of divW and div where the numerator has one word at most.
  Contracts of bitsDiv64, bitsDiv (no high word), divWVW (one word), divW and div (one word over one word).
-/
import Derived.Test.YtfafiahefjimdaaGreatDoorGA
import Derived.Shelf.Bits.Mul64
import Derived.Shelf.Small.Bits
import Derived.Tactics
import Derived.Deep.QuietTactic
import Derived.BigQuiet
import Derived.LaidEqlPtr
import Derived.Defers
import Derived.Deep.Cut
namespace Go.Proofs.YtfafiahefjimdaaGreatDoor
open Go Go.RowKit

/-- A list overwritten from o on. -/
def over (ws : List Nat) (o : Nat) (ds : List Nat) : List Nat := ws.take o ++ (ds ++ ws.drop (o + ds.length))
theorem over_nil (ws : List Nat) (o : Nat) : over ws o [] = ws := by simp [over]
theorem over_length {ws : List Nat} {o : Nat} {ds : List Nat} (h : o + ds.length ≤ ws.length) : (over ws o ds).length = ws.length := by
  simp [over]; omega
theorem over_get {ws : List Nat} {o : Nat} {ds : List Nat} (h : o + ds.length ≤ ws.length) (j : Nat) : (over ws o ds)[j]? = if j < o then ws[j]? else if j < o + ds.length then ds[j - o]? else ws[j]? := by
  have ht : (ws.take o).length = o := by simp; omega
  unfold over
  by_cases h1 : j < o
  · rw [if_pos h1, List.getElem?_append_left (by rw [ht]; exact h1), List.getElem?_take, if_pos h1]
  · rw [if_neg h1, List.getElem?_append_right (by rw [ht]; omega), ht]
    by_cases h2 : j < o + ds.length
    · rw [if_pos h2, List.getElem?_append_left (by omega)]
    · rw [if_neg h2, List.getElem?_append_right (by omega), List.getElem?_drop]
      congr 1; omega
theorem over_snoc {ws : List Nat} {o : Nat} {ds : List Nat} (d : Nat) (h : o + ds.length < ws.length) : (over ws o ds).set (o + ds.length) d = over ws o (ds ++ [d]) := by
  refine List.ext_getElem? fun j => ?_
  rw [over_get (by simp; omega), List.getElem?_set, over_get (by omega), over_length (by omega)]
  by_cases h1 : o + ds.length = j
  · subst h1
    rw [if_pos rfl, if_pos (by omega), if_neg (by omega), if_pos (by simp), List.getElem?_append_right (by omega)]
    simp
  · rw [if_neg h1]
    by_cases h2 : j < o
    · rw [if_pos h2, if_pos h2]
    · rw [if_neg h2, if_neg h2]
      by_cases h3 : j < o + ds.length
      · rw [if_pos h3, if_pos (by simp; omega), List.getElem?_append_left (by omega)]
      · rw [if_neg h3, if_neg (by simp; omega)]
theorem over_cons {ws : List Nat} {o : Nat} {ds : List Nat} (d : Nat) (h : o + 1 + ds.length ≤ ws.length) : (over ws (o + 1) ds).set o d = over ws o (d :: ds) := by
  refine List.ext_getElem? fun j => ?_
  rw [over_get (by simp; omega), List.getElem?_set, over_get (by omega), over_length (by omega)]
  by_cases h1 : o = j
  · subst h1
    rw [if_pos rfl, if_pos (by omega), if_neg (by omega), if_pos (by simp)]
    simp
  · rw [if_neg h1]
    by_cases h2 : j < o
    · rw [if_pos (by omega), if_pos h2]
    · rw [if_neg (by omega), if_neg h2]
      by_cases h3 : j < o + 1 + ds.length
      · rw [if_pos h3, if_pos (by simp; omega), show j - o = (j - (o + 1)) + 1 by omega, List.getElem?_cons_succ]
      · rw [if_neg h3, if_neg (by simp; omega)]
theorem over_lt {ws : List Nat} {o : Nat} {ds : List Nat} (h : ∀ x ∈ ws, x < B64) (k : ∀ d ∈ ds, d < B64) : ∀ x ∈ over ws o ds, x < B64 := by
  intro x hx
  unfold over at hx
  rcases List.mem_append.1 hx with hx | hx
  · exact h x (List.mem_of_mem_take hx)
  · rcases List.mem_append.1 hx with hx | hx
    · exact k x hx
    · exact h x (List.mem_of_mem_drop hx)
/-- What lies in a part that was written over. -/
theorem over_part {ws : List Nat} {o : Nat} {ds : List Nat} (h : o + ds.length ≤ ws.length) : ((over ws o ds).drop o).take ds.length = ds := by
  have ht : (ws.take o).length = o := by simp; omega
  unfold over
  rw [List.drop_append_of_le_length (by rw [ht]; exact Nat.le_refl _), List.drop_of_length_le (by rw [ht]; exact Nat.le_refl _), List.nil_append, List.take_left]
theorem over_over {ws : List Nat} {o : Nat} {ds es : List Nat} (h : o + ds.length ≤ ws.length) (hl : es.length = ds.length) : over (over ws o ds) o es = over ws o es := by
  refine List.ext_getElem? fun j => ?_
  rw [over_get (by rw [over_length h]; omega), over_get h, over_get (by omega)]
  by_cases h1 : j < o
  · simp only [if_pos h1]
  · simp only [if_neg h1]
    by_cases h2 : j < o + es.length
    · simp only [if_pos h2]
    · rw [if_neg h2, if_neg (by omega), if_neg h2]
/-- A part next to another one, both written over. -/
theorem over_join {ws : List Nat} {o : Nat} {ds es : List Nat} (h : o + ds.length + es.length ≤ ws.length) : over (over ws o ds) (o + ds.length) es = over ws o (ds ++ es) := by
  refine List.ext_getElem? fun j => ?_
  rw [over_get (by rw [over_length (by omega)]; omega), over_get (by omega), over_get (by simp; omega)]
  by_cases h1 : j < o
  · simp only [if_pos h1, if_pos (show j < o + ds.length by omega)]
  · simp only [if_neg h1]
    by_cases h2 : j < o + ds.length
    · rw [if_pos h2, if_pos (show j < o + (ds ++ es).length by simp; omega), if_pos h2, List.getElem?_append_left (by omega)]
    · rw [if_neg h2, if_neg h2]
      by_cases h3 : j < o + ds.length + es.length
      · rw [if_pos h3, if_pos (show j < o + (ds ++ es).length by simp; omega), List.getElem?_append_right (by omega)]
        congr 1; omega
      · rw [if_neg h3, if_neg (show ¬ j < o + (ds ++ es).length by simp; omega)]

/-- Block g is just these words. -/
def WB (w : World) (g : Nat) (ws : List Nat) : Prop := Blk w g 221 (ws.map wv) ∧ ∀ x ∈ ws, x < B64
theorem WB.lt {w : World} {g : Nat} {ws : List Nat} (h : WB w g ws) : g < w.heap.size := h.1.lt
theorem WB.cell {w : World} {g : Nat} {ws : List Nat} (h : WB w g ws) (i : Nat) (x : Nat) (hx : ws[i]? = some x) : w.cell? ⟨g, i, none⟩ = some (.int .u64 (x : Int)) := by
  rw [h.1.cell i, List.getElem?_map, hx]; rfl
theorem WB.frozen {w : World} {g : Nat} {ws : List Nat} (h : WB w g ws) (i : Nat) : w.frozen? ⟨g, i, none⟩ = false := h.1.frozen i
theorem WB.set_ {w : World} {g : Nat} {ws : List Nat} (h : WB w g ws) (i d : Nat) (hd : d < B64) : WB (w.setCell ⟨g, i, none⟩ (.int .u64 (d : Int))) g (ws.set i d) := by
  refine ⟨?_, ?_⟩
  · have := h.1.set_ i (wv d)
    rwa [← List.map_set] at this
  · intro x hx
    rcases List.mem_or_eq_of_mem_set hx with hx | rfl
    · exact h.2 x hx
    · exact hd
theorem WB.ext {w w' : World} {g : Nat} {ws : List Nat} (h : WB w g ws) (e : Ext w w') : WB w' g ws := ⟨h.1.ext e, h.2⟩
theorem WB.drewN {w : World} {g : Nat} {ws : List Nat} (h : WB w g ws) (n : Nat) : WB (w.drewN n) g ws := h
theorem WB.only {w w' : World} {g i : Nat} {ws : List Nat} (h : WB w i ws) (e : Only g w w') (hne : i ≠ g) : WB w' i ws := ⟨e.block' h.1 hne, h.2⟩

/-- The words at a place, which may be the very place that is written (z = x), or lie in another block. -/
def Src (w : World) (g o b' o' : Nat) (xs : List Nat) : Prop :=
  (∀ x ∈ xs, x < B64) ∧ (∀ j (h : j < xs.length), w.cell? ⟨b', o' + j, none⟩ = some (.int .u64 (xs[j] : Int))) ∧ (b' ≠ g ∨ (b' = g ∧ o' = o))
theorem Src.read {w wr : World} {g o b' o' : Nat} {xs ws ds : List Nat} (h : Src w g o b' o' xs) (hb : WB w g ws) (e : Only g w wr) (k : WB wr g (over ws o ds)) (ho : o + ds.length ≤ ws.length) (j : Nat) (hj : ds.length ≤ j) (hx : j < xs.length) :
    wr.cell? ⟨b', o' + j, none⟩ = some (.int .u64 (xs[j] : Int)) := by
  have hc := h.2.1 j hx
  rcases h.2.2 with hne | ⟨rfl, rfl⟩
  · exact e.cell hc hne
  · rw [k.1.cell, List.getElem?_map, over_get ho, if_neg (by omega), if_neg (by omega), ← List.getElem?_map, ← hb.1.cell]
    exact hc

/-- What a vector operation leaves: the words of block g from o on are ds, and a word c is handed back; nothing else has turned. -/
def RetV (g : Nat) (ws : List Nat) (o n : Nat) (R : List Nat → Nat → Prop) (w : World) (e : Ending) (w' : World) : Prop :=
  ∃ (ds : List Nat) (c : Nat), e = .returned (.int .u64 (c : Int)) ∧ c < B64 ∧ ds.length = n ∧ (∀ d ∈ ds, d < B64) ∧ R ds c ∧ WB w' g (over ws o ds) ∧ Only g w w'
end Go.Proofs.YtfafiahefjimdaaGreatDoor

namespace Go.Proofs.YtfafiahefjimdaaGreatDoor

/-- The half base, 2^32, behind a name. -/
def H32 : Nat := 4294967296
theorem B64_HH : B64 = H32 * H32 := by unfold B64 H32; rfl

/-- A digit that is too great is lowered. -/
theorem dig_dec {q r u u1 y1 y0 b : Nat} (hI : q * y1 + r = u) (hy : u < y1 * b + y0) (hu1 : u1 < b) (hc : b ≤ q ∨ b * r + u1 < q * y0) : u * b + u1 < q * (y1 * b + y0) := by
  rcases hc with hc | hc
  · have h1 : (u + 1) * b ≤ (y1 * b + y0) * q := Nat.mul_le_mul hy hc
    rw [Nat.add_mul, Nat.one_mul, Nat.mul_comm (y1 * b + y0)] at h1
    omega
  · have e1 : q * (y1 * b + y0) = q * y1 * b + q * y0 := by rw [Nat.mul_add, Nat.mul_assoc]
    have e2 : u * b = q * y1 * b + b * r := by rw [← hI, Nat.add_mul, Nat.mul_comm r b]
    omega
/-- A digit that is not too great. -/
theorem dig_exit {q r u u1 y1 y0 b : Nat} (hI : q * y1 + r = u) (hc : q * y0 ≤ b * r + u1) : q * (y1 * b + y0) ≤ u * b + u1 := by
  have e1 : q * (y1 * b + y0) = q * y1 * b + q * y0 := by rw [Nat.mul_add, Nat.mul_assoc]
  have e2 : u * b = q * y1 * b + b * r := by rw [← hI, Nat.add_mul, Nat.mul_comm r b]
  omega
theorem dig_start {u u1 y1 y0 b : Nat} (hy1 : 0 < y1) (hu1 : u1 < b) : u * b + u1 < (u / y1 + 1) * (y1 * b + y0) := by
  have h1 : u < (u / y1 + 1) * y1 := by rw [Nat.mul_comm]; exact Nat.lt_mul_div_succ u hy1
  have h2 : (u + 1) * b ≤ (u / y1 + 1) * y1 * b := Nat.mul_le_mul_right b h1
  have e1 : (u / y1 + 1) * (y1 * b + y0) = (u / y1 + 1) * y1 * b + (u / y1 + 1) * y0 := by rw [Nat.mul_add, Nat.mul_assoc]
  rw [Nat.add_mul, Nat.one_mul] at h2
  omega
theorem dig_top {u y1 y0 b : Nat} (hy1 : 0 < y1) (hy : u < y1 * b + y0) (h0 : y0 < b) (hn : b ≤ 2 * y1) : u / y1 ≤ b + 1 := by
  have h1 : u < y1 * (b + 2) := by rw [Nat.mul_add]; omega
  have := (Nat.div_lt_iff_lt_mul hy1).2 (by rw [Nat.mul_comm (b + 2)]; exact h1)
  omega
/-- The quotient and the rest, out of both bounds. -/
theorem div_of {U q y : Nat} (h1 : q * y ≤ U) (h2 : U < (q + 1) * y) : U / y = q ∧ U % y = U - q * y := by
  have hy : 0 < y := by
    rcases Nat.eq_zero_or_pos y with rfl | h
    · simp at h2
    · exact h
  have e : U / y = q := Nat.div_eq_of_lt_le h1 h2
  refine ⟨e, ?_⟩
  have := Nat.div_add_mod U y
  rw [e, Nat.mul_comm] at this
  omega
/-- Two digits, one after the other. -/
theorem two_digits {u a c y b : Nat} : let U1 := u * b + a
    ((U1 / y) * b + (U1 % y * b + c) / y = (U1 * b + c) / y) ∧ ((U1 % y * b + c) % y = (U1 * b + c) % y) := by
  intro U1
  rcases Nat.eq_zero_or_pos y with rfl | hy
  · simp
  have e : U1 * b + c = (U1 % y * b + c) + y * ((U1 / y) * b) := by
    have h := Nat.div_add_mod U1 y
    have : U1 * b = y * (U1 / y) * b + U1 % y * b := by rw [← Nat.add_mul, h]
    rw [this, Nat.mul_assoc]; omega
  rw [e, Nat.add_mul_div_left _ _ hy, Nat.add_mul_mod_self_left]
  exact ⟨by omega, rfl⟩
/-- A division that was scaled. -/
theorem scaled {x y k : Nat} (hk : 0 < k) : (x * k) / (y * k) = x / y ∧ (x * k) % (y * k) / k = x % y := by
  refine ⟨Nat.mul_div_mul_right x y hk, ?_⟩
  rw [Nat.mul_mod_mul_right, Nat.mul_div_cancel _ hk]
/-- The guess of a quotient by a reciprocal (two words by one): K is the floor of (B*B - 1) / d. -/
theorem recip_le {B d K x1 x0 : Nat} (hB : 0 < B) (hd : d ≤ B) (hK : K * d < B * B) : (x1 * K + x0) / B * d ≤ x1 * B + x0 := by
  obtain ⟨q, hq⟩ : ∃ q, q = (x1 * K + x0) / B := ⟨_, rfl⟩
  rw [← hq]
  have h1 : q * B ≤ x1 * K + x0 := by rw [hq]; exact Nat.div_mul_le_self _ _
  have h2 : q * B * d ≤ (x1 * K + x0) * d := Nat.mul_le_mul_right d h1
  have h3 : x1 * (K * d) ≤ x1 * (B * B) := Nat.mul_le_mul_left x1 (Nat.le_of_lt hK)
  have h4 : x0 * d ≤ x0 * B := Nat.mul_le_mul_left x0 hd
  have e1 : (x1 * K + x0) * d = x1 * (K * d) + x0 * d := by rw [Nat.add_mul, Nat.mul_assoc]
  have e2 : (x1 * B + x0) * B = x1 * (B * B) + x0 * B := by rw [Nat.add_mul, Nat.mul_assoc]
  have e3 : q * d * B = q * B * d := by rw [Nat.mul_assoc, Nat.mul_comm d B, ← Nat.mul_assoc]
  exact Nat.le_of_mul_le_mul_right (by omega) hB
theorem recip_lt {B d K x1 x0 : Nat} (hd0 : 0 < d) (hd : d ≤ B) (hK : B * B ≤ (K + 1) * d) (h1 : x1 < d) (h0 : x0 < B) : x1 * B + x0 < (x1 * K + x0) / B * d + B + d := by
  have hB : 0 < B := by omega
  obtain ⟨q, hq⟩ : ∃ q, q = (x1 * K + x0) / B := ⟨_, rfl⟩
  rw [← hq]
  have g1 : x1 * K + x0 < (q + 1) * B := by rw [hq]; have := Nat.lt_mul_div_succ (x1 * K + x0) hB; rwa [Nat.mul_comm B] at this
  have g2 : (x1 * K + x0 + 1) * d ≤ (q + 1) * B * d := Nat.mul_le_mul_right d g1
  have e1 : (x1 * K + x0 + 1) * d = x1 * (K * d) + x0 * d + d := by rw [Nat.add_mul, Nat.add_mul, Nat.one_mul, Nat.mul_assoc]
  have e2 : x1 * ((K + 1) * d) = x1 * (K * d) + x1 * d := by rw [Nat.add_mul, Nat.one_mul, Nat.mul_add]
  have g3 : x1 * (B * B) ≤ x1 * ((K + 1) * d) := Nat.mul_le_mul_left x1 hK
  obtain ⟨f, hf⟩ : ∃ f, B = d + f := ⟨B - d, by omega⟩
  have e3 : x0 * B = x0 * d + x0 * f := by rw [hf, Nat.mul_add]
  have g4 : x0 * f ≤ B * f := Nat.mul_le_mul_right f (Nat.le_of_lt h0)
  have g5 : x1 * d ≤ B * d := Nat.mul_le_mul_right d (by omega)
  have e4 : B * B = B * d + B * f := by rw [← Nat.mul_add, ← hf]
  have e5 : (x1 * B + x0) * B = x1 * (B * B) + x0 * B := by rw [Nat.add_mul, Nat.mul_assoc]
  have e6 : (q * d + B + d) * B = (q + 1) * B * d + B * B := by
    rw [Nat.add_mul, Nat.add_mul, Nat.add_mul, Nat.one_mul, Nat.add_mul, Nat.mul_right_comm q d B, Nat.mul_comm d B]; omega
  exact Nat.lt_of_mul_lt_mul_right (a := B) (by omega)
/-- The guess, put right at most twice. -/
theorem recip_fix {B d q X : Nat} (hd : d ≤ B) (hn : B ≤ 2 * d) (h1 : q * d ≤ X) (h2 : X < q * d + B + d) :
    let r := X - q * d
    (if B ≤ r then (if d ≤ r - d then (q + 2, r - 2 * d) else (q + 1, r - d)) else if d ≤ r then (q + 1, r - d) else (q, r)) = (X / d, X % d) := by
  intro r
  have e1 : (q + 1) * d = q * d + d := by rw [Nat.add_mul, Nat.one_mul]
  have e2 : (q + 2) * d = q * d + 2 * d := by rw [Nat.add_mul]
  have e3 : (q + 2 + 1) * d = q * d + 3 * d := by rw [Nat.add_assoc, Nat.add_mul]
  have hr : X = q * d + r := by omega
  by_cases c1 : B ≤ r
  · rw [if_pos c1]
    by_cases c2 : d ≤ r - d
    · rw [if_pos c2]
      have := div_of (U := X) (q := q + 2) (y := d) (by omega) (by omega)
      rw [this.1, this.2]; congr 1; omega
    · rw [if_neg c2]
      have := div_of (U := X) (q := q + 1) (y := d) (by omega) (by rw [show q + 1 + 1 = q + 2 from rfl]; omega)
      rw [this.1, this.2]; congr 1; omega
  · rw [if_neg c1]
    by_cases c2 : d ≤ r
    · rw [if_pos c2]
      have := div_of (U := X) (q := q + 1) (y := d) (by omega) (by rw [show q + 1 + 1 = q + 2 from rfl]; omega)
      rw [this.1, this.2]; congr 1; omega
    · rw [if_neg c2]
      have := div_of (U := X) (q := q) (y := d) (by omega) (by omega)
      rw [this.1, this.2]

/-- A quotient's digit by the three top words and the two top words: at most one too great. -/
theorem guess3 {S U U3 u0 v v2 v0 q : Nat} (hS : 0 < S) (hU : U = U3 * S + u0) (hu0 : u0 < S) (hv : v = v2 * S + v0) (hv0 : v0 < S) (hq : q = U3 / v2) (hv2 : 0 < v2) (hqB : q * S ≤ v) :
    U / v ≤ q ∧ q ≤ U / v + 1 := by
  have hv' : 0 < v := by
    have : 1 * 1 ≤ v2 * S := Nat.mul_le_mul hv2 hS
    omega
  constructor
  · rw [hq]
    refine (Nat.le_div_iff_mul_le hv2).2 ?_
    have h1 : U / v * v ≤ U := Nat.div_mul_le_self _ _
    have h2 : U / v * (v2 * S) ≤ U / v * v := Nat.mul_le_mul_left _ (by omega)
    have h3 : U / v * v2 * S < (U3 + 1) * S := by rw [Nat.mul_assoc, Nat.add_mul, Nat.one_mul]; omega
    have := Nat.lt_of_mul_lt_mul_right h3
    omega
  · have h1 : q * v2 ≤ U3 := by rw [hq]; exact Nat.div_mul_le_self _ _
    have h2 : q * v2 * S ≤ U3 * S := Nat.mul_le_mul_right S h1
    have h3 : q * v0 ≤ q * S := Nat.mul_le_mul_left q (Nat.le_of_lt hv0)
    have e : q * v = q * v2 * S + q * v0 := by rw [hv, Nat.mul_add, Nat.mul_assoc]
    rcases Nat.eq_zero_or_pos q with h0 | h0
    · rw [h0]; exact Nat.zero_le _
    · obtain ⟨p, rfl⟩ : ∃ p, q = p + 1 := ⟨q - 1, by omega⟩
      have e2 : (p + 1) * v = p * v + v := by rw [Nat.add_mul, Nat.one_mul]
      exact Nat.succ_le_succ ((Nat.le_div_iff_mul_le hv').2 (by omega))
/-- The greatest digit, where both top words are alike. -/
theorem guess_top {B S U v v1 v0 : Nat} (hS : 0 < S) (hU : v1 * B * S ≤ U) (hv : v = v1 * S + v0) (hv0 : v0 < S) (hn : B ≤ 2 * v1) (hlt : U < v * B) : U / v ≤ B - 1 ∧ B - 1 ≤ U / v + 1 := by
  have hB : 0 < B := by
    rcases Nat.eq_zero_or_pos B with rfl | h
    · simp at hlt
    · exact h
  have hv1 : 0 < v1 := by omega
  have hv' : 0 < v := by
    have : 1 * 1 ≤ v1 * S := Nat.mul_le_mul hv1 hS
    omega
  constructor
  · have := (Nat.div_lt_iff_lt_mul hv').2 (by rw [Nat.mul_comm B]; exact hlt)
    omega
  · rcases Nat.lt_or_ge B 2 with h | h
    · exact Nat.le_trans (by omega : B - 1 ≤ 0) (Nat.zero_le _)
    · obtain ⟨p, rfl⟩ : ∃ p, B = p + 2 := ⟨B - 2, by omega⟩
      have h1 : p * v0 ≤ p * S := Nat.mul_le_mul_left p (Nat.le_of_lt hv0)
      have e1 : p * v = p * v1 * S + p * v0 := by rw [hv, Nat.mul_add, Nat.mul_assoc]
      have e2 : v1 * (p + 2) * S = p * v1 * S + 2 * v1 * S := by rw [Nat.mul_add, Nat.add_mul, Nat.mul_comm v1 p, Nat.mul_comm v1 2]
      have h2 : (p + 2) * S ≤ 2 * v1 * S := Nat.mul_le_mul_right S hn
      have e3 : (p + 2) * S = p * S + 2 * S := Nat.add_mul _ _ _
      exact Nat.succ_le_succ ((Nat.le_div_iff_mul_le hv').2 (show p * v ≤ U by omega))
end Go.Proofs.YtfafiahefjimdaaGreatDoor

namespace Go.Proofs.YtfafiahefjimdaaGreatDoor
open Go Go.RowKit Go.Shelf

def renM : Ren where
  f := fun n => if n = 212 then 239 else if n = 263 then 285 else 126
  t := fun n => if n = 46 then 220 else if n = 51 then 296 else if n = 53 then 31 else if n = 146 then 297 else 180
  g := fun n => n
theorem laysM : Lays.n212 Tryz.prog renM where
  mixed := by kernel_rfl
  f212 := by kernel_rfl
  f263 := by kernel_rfl
  f264 := by kernel_rfl
  t46 := by kernel_rfl
  a46 := by intro w; kernel_rfl
  z46 := by intro w; kernel_rfl
  v46 := by intro w; kernel_rfl
  t51 := by kernel_rfl
  a51 := by intro w; kernel_rfl
  z51 := by intro w; kernel_rfl
  v51 := by intro w; kernel_rfl
  t53 := by kernel_rfl
  a53 := by intro w; kernel_rfl
  z53 := by intro w; kernel_rfl
  v53 := by intro w; kernel_rfl
  t146 := by kernel_rfl
  a146 := by intro w; kernel_rfl
  z146 := by intro w; kernel_rfl
  v146 := by intro w; kernel_rfl
  t148 := by kernel_rfl
  a148 := by intro w; kernel_rfl
  z148 := by intro w; kernel_rfl
  v148 := by intro w; kernel_rfl
def renLZ : Ren where
  f := fun n => if n = 125 then 326 else if n = 128 then 353 else if n = 129 then 354 else 340
  t := fun n => if n = 3 then 3 else if n = 4 then 4 else if n = 5 then 5 else if n = 9 then 9 else if n = 46 then 220 else if n = 51 then 296 else 31
  g := fun n => n
theorem laysLZ : Lays.n130 Tryz.prog renLZ where
  mixed := by kernel_rfl
  f125 := by kernel_rfl
  f128 := by kernel_rfl
  f129 := by kernel_rfl
  f130 := by kernel_rfl
  t3 := by kernel_rfl
  a3 := by intro w; kernel_rfl
  z3 := by intro w; kernel_rfl
  v3 := by intro w; kernel_rfl
  t4 := by kernel_rfl
  a4 := by intro w; kernel_rfl
  z4 := by intro w; kernel_rfl
  v4 := by intro w; kernel_rfl
  t5 := by kernel_rfl
  a5 := by intro w; kernel_rfl
  z5 := by intro w; kernel_rfl
  v5 := by intro w; kernel_rfl
  t9 := by kernel_rfl
  a9 := by intro w; kernel_rfl
  z9 := by intro w; kernel_rfl
  v9 := by intro w; kernel_rfl
  t46 := by kernel_rfl
  a46 := by intro w; kernel_rfl
  z46 := by intro w; kernel_rfl
  v46 := by intro w; kernel_rfl
  t51 := by kernel_rfl
  a51 := by intro w; kernel_rfl
  z51 := by intro w; kernel_rfl
  v51 := by intro w; kernel_rfl
  t53 := by kernel_rfl
  a53 := by intro w; kernel_rfl
  z53 := by intro w; kernel_rfl
  v53 := by intro w; kernel_rfl
def renLZ64 : Ren where
  f := fun n => if n = 129 then 354 else 390
  t := fun n => if n = 3 then 3 else if n = 4 then 4 else if n = 5 then 5 else if n = 9 then 9 else if n = 46 then 220 else 31
  g := fun n => n
theorem laysLZ64 : Lays.n134 Tryz.prog renLZ64 where
  mixed := by kernel_rfl
  f129 := by kernel_rfl
  f134 := by kernel_rfl
  t3 := by kernel_rfl
  a3 := by intro w; kernel_rfl
  z3 := by intro w; kernel_rfl
  v3 := by intro w; kernel_rfl
  t4 := by kernel_rfl
  a4 := by intro w; kernel_rfl
  z4 := by intro w; kernel_rfl
  v4 := by intro w; kernel_rfl
  t5 := by kernel_rfl
  a5 := by intro w; kernel_rfl
  z5 := by intro w; kernel_rfl
  v5 := by intro w; kernel_rfl
  t9 := by kernel_rfl
  a9 := by intro w; kernel_rfl
  z9 := by intro w; kernel_rfl
  v9 := by intro w; kernel_rfl
  t46 := by kernel_rfl
  a46 := by intro w; kernel_rfl
  z46 := by intro w; kernel_rfl
  v46 := by intro w; kernel_rfl
  t53 := by kernel_rfl
  a53 := by intro w; kernel_rfl
  z53 := by intro w; kernel_rfl
  v53 := by intro w; kernel_rfl

theorem bMul (x y : Nat) (hx : x < B64) (hy : y < B64) (w : World) : Calls Tryz.prog 239 #[.int .u64 x, .int .u64 y] w fun e w' => e = .returned (.tuple #[.int .u64 ((x * y / B64 : Nat) : Int), .int .u64 ((x * y % B64 : Nat) : Int)]) ∧ w' = w :=
  Any.bits_Mul laysM x y hx hy w
theorem bLeadZ (x : Nat) (w : World) (h : x < B64) : Calls Tryz.prog 340 #[.int .u64 x] w fun e w' => e = .returned (.int .i64 (64 - (Lib.bitLen x : Int))) ∧ w' = w := by
  have := Any.bits_LeadingZeros laysLZ x w (by omega) (by unfold B64 at h; omega)
  rwa [Int.toNat_natCast] at this
theorem bLeadZ64 (x : Nat) (w : World) (h : x < B64) : Calls Tryz.prog 390 #[.int .u64 x] w fun e w' => e = .returned (.int .i64 (64 - (Lib.bitLen x : Int))) ∧ w' = w := by
  have := Any.bits_LeadingZeros64 laysLZ64 x w (by omega) (by unfold B64 at h; omega)
  rwa [Int.toNat_natCast] at this

set_option maxRecDepth 100000 in
theorem gMulWW (x y : Nat) (hx : x < B64) (hy : y < B64) (w : World) : Calls Tryz.prog 259 #[.int .u64 x, .int .u64 y] w fun e w' => e = .returned (.tuple #[.int .u64 ((x * y / B64 : Nat) : Int), .int .u64 ((x * y % B64 : Nat) : Int)]) ∧ w' = w := by
  have H := Lib.hid (bMul x y hx hy w)
  generalize x * y / B64 = a, x * y % B64 = b at H ⊢
  clear hx hy
  go_enter Tryz.func259, Tryz.ntmps259
  go_wp2_with (go_at_call 239; refine H.out.mono ?_; rintro e w' ⟨rfl, rfl⟩)
  go_ret2
  exact ⟨rfl, rfl⟩
theorem mul_hi (x y c : Nat) (hx : x < B64) (hy : y < B64) (hc : c < B64) : x * y / B64 + (x * y % B64 + c) / B64 = (x * y + c) / B64 ∧ (x * y % B64 + c) % B64 = (x * y + c) % B64 ∧ (x * y + c) / B64 < B64 := by
  have h1 : x * y ≤ (B64 - 1) * (B64 - 1) := Nat.mul_le_mul (by omega) (by omega)
  obtain ⟨p, hp⟩ : ∃ p, p = x * y := ⟨_, rfl⟩
  rw [← hp] at h1 ⊢
  unfold B64 at *
  omega
set_option maxRecDepth 100000 in
theorem gMulAddWWW (x y c : Nat) (hx : x < B64) (hy : y < B64) (hc : c < B64) (w : World) : Calls Tryz.prog 363 #[.int .u64 x, .int .u64 y, .int .u64 c] w fun e w' => e = .returned (.tuple #[.int .u64 (((x * y + c) / B64 : Nat) : Int), .int .u64 (((x * y + c) % B64 : Nat) : Int)]) ∧ w' = w := by
  have H := Lib.hid (bMul x y hx hy w)
  have HM := Lib.hid (mul_hi x y c hx hy hc)
  obtain ⟨a, ha⟩ : ∃ a, a = x * y / B64 := ⟨_, rfl⟩
  obtain ⟨b, hb⟩ : ∃ b, b = x * y % B64 := ⟨_, rfl⟩
  rw [← ha, ← hb] at H HM
  have HA := Lib.hid (bitsAdd b c 0 (by omega) w)
  obtain ⟨p, hp⟩ : ∃ p, p = (x * y + c) / B64 := ⟨_, rfl⟩
  obtain ⟨q, hq⟩ : ∃ q, q = (x * y + c) % B64 := ⟨_, rfl⟩
  rw [← hp, ← hq] at HM ⊢
  rw [Nat.add_zero] at HA
  obtain ⟨k, hk⟩ : ∃ k, k = (b + c) / B64 := ⟨_, rfl⟩
  rw [← hk, HM.out.2.1] at HA
  have HP := Lib.hid (show a + k = p ∧ p < B64 by have := HM.out; rw [← hk] at this; exact ⟨this.1, this.2.2⟩)
  have HP1 : (a : Int) + (k : Int) ≤ 18446744073709551615 := by have := HP.out; unfold B64 at this; omega
  clear hx hy hc ha hb hp hq hk HM
  go_enter Tryz.func363, Tryz.ntmps363
  go_wp2_with (first | (go_at_call 239; refine H.out.mono ?_; rintro e w' ⟨rfl, rfl⟩) | (go_at_call 273; refine HA.out.mono ?_; rintro e w' ⟨rfl, rfl⟩))
  go_ret2
  exact ⟨by rw [← HP.out.1]; rfl, rfl⟩
set_option maxRecDepth 100000 in
theorem gNlz (x : Nat) (h : x < B64) (w : World) : Calls Tryz.prog 312 #[.int .u64 x] w fun e w' => e = .returned (.int .u64 ((64 - Lib.bitLen x : Nat) : Int)) ∧ w' = w := by
  have hb : Lib.bitLen x ≤ 64 := Lib.bitLen_le x 64 (Nat.le_refl _) (by unfold B64 at h; omega)
  have H := Lib.hid (bLeadZ x w h)
  generalize Lib.bitLen x = l at hb H ⊢
  clear h
  go_enter Tryz.func312, Tryz.ntmps312
  go_wp2_with (go_at_call 340; refine H.out.mono ?_; rintro e w' ⟨rfl, rfl⟩)
  go_ret
  exact ⟨by rw [show ((64 - l : Nat) : Int) = 64 - (l : Int) by omega]; rfl, rfl⟩
end Go.Proofs.YtfafiahefjimdaaGreatDoor

namespace Go.Proofs.YtfafiahefjimdaaGreatDoor
open Go Go.RowKit

theorem mulStep (P D x y c k r : Nat) (h : D + c * B64 ^ k = P * y + r) : D + B64 ^ k * ((x * y + c) % B64) + (x * y + c) / B64 * B64 ^ (k + 1) = (P + B64 ^ k * x) * y + r := by
  have e : B64 * ((x * y + c) / B64) + (x * y + c) % B64 = x * y + c := Nat.div_add_mod _ _
  have e2 : (x * y + c) / B64 * B64 ^ (k + 1) = B64 ^ k * (B64 * ((x * y + c) / B64)) := by rw [Nat.pow_succ]; ac_rfl
  have e3 : B64 ^ k * (B64 * ((x * y + c) / B64)) + B64 ^ k * ((x * y + c) % B64) = B64 ^ k * (x * y + c) := by rw [← Nat.mul_add, e]
  have e4 : B64 ^ k * (x * y + c) = B64 ^ k * x * y + c * B64 ^ k := by rw [Nat.mul_add, Nat.mul_comm c, Nat.mul_assoc]
  have e5 : (P + B64 ^ k * x) * y = P * y + B64 ^ k * x * y := Nat.add_mul _ _ _
  omega
theorem addMulStep (P Q D x z m c k a : Nat) (h : D + c * B64 ^ k = P + Q * m + a) : D + B64 ^ k * ((x * m + z + c) % B64) + (x * m + z + c) / B64 * B64 ^ (k + 1) = P + B64 ^ k * z + (Q + B64 ^ k * x) * m + a := by
  have e : B64 * ((x * m + z + c) / B64) + (x * m + z + c) % B64 = x * m + z + c := Nat.div_add_mod _ _
  have e2 : (x * m + z + c) / B64 * B64 ^ (k + 1) = B64 ^ k * (B64 * ((x * m + z + c) / B64)) := by rw [Nat.pow_succ]; ac_rfl
  have e3 : B64 ^ k * (B64 * ((x * m + z + c) / B64)) + B64 ^ k * ((x * m + z + c) % B64) = B64 ^ k * (x * m + z + c) := by rw [← Nat.mul_add, e]
  have e4 : B64 ^ k * (x * m + z + c) = B64 ^ k * x * m + B64 ^ k * z + c * B64 ^ k := by rw [Nat.mul_add, Nat.mul_add, Nat.mul_comm c, Nat.mul_assoc]
  have e5 : (Q + B64 ^ k * x) * m = Q * m + B64 ^ k * x * m := Nat.add_mul _ _ _
  omega
theorem addMul_hi (x y z c : Nat) (hx : x < B64) (hy : y < B64) (hz : z < B64) (hc : c < B64) : ((x * y + z) % B64 + c) / B64 + (x * y + z) / B64 = (x * y + z + c) / B64 ∧ ((x * y + z) % B64 + c) % B64 = (x * y + z + c) % B64 ∧ (x * y + z + c) / B64 < B64 := by
  have h1 : x * y ≤ (B64 - 1) * (B64 - 1) := Nat.mul_le_mul (by omega) (by omega)
  obtain ⟨p, hp⟩ : ∃ p, p = x * y := ⟨_, rfl⟩
  rw [← hp] at h1 ⊢
  unfold B64 at *
  omega
theorem lt_of_get {xs : List Nat} (h : ∀ x ∈ xs, x < B64) (k : Nat) (hk : k < xs.length) : xs[k] < B64 := h _ (List.getElem_mem _)
theorem lt_snoc {ds : List Nat} {d : Nat} (h : ∀ x ∈ ds, x < B64) (hd : d < B64) : ∀ x ∈ ds ++ [d], x < B64 := by
  intro x hx
  rcases List.mem_append.1 hx with hx | hx
  · exact h x hx
  · simp at hx; subst hx; exact hd
theorem take_all {xs : List Nat} {n : Nat} (h : xs.length = n) : xs.take n = xs := List.take_of_length_le (by omega)

set_option maxRecDepth 100000 in
theorem vMulAddVWWg (g o cz bx ox cx y r : Nat) (ws xs : List Nat) (n : Nat) (w : World) (hn : n ≤ 1000000) (hb : WB w g ws) (ho : o + n ≤ ws.length) (hx : Src w g o bx ox xs) (hxl : xs.length = n) (hy : y < B64) (hr : r < B64) :
    Calls Tryz.prog 332 #[.slice (some ⟨g, o, none⟩) n cz, .slice (some ⟨bx, ox, none⟩) n cx, .int .u64 y, .int .u64 r] w (RetV g ws o n (fun ds c => natOf ds + c * B64 ^ n = natOf xs * y + r) w) := by
  have HX := Lib.hid hx; have HB := Lib.hid hb; have HXL := Lib.hid hxl
  clear hx hb hxl
  go_enter Tryz.func332, Tryz.ntmps332
  go_wp2
  go_loopw [8, 19] (fun c i wr => ∃ (k : Nat) (ds : List Nat) (cc : Nat), k ≤ n ∧ i = .int .i64 k ∧ c = .int .u64 (cc : Int) ∧ cc < B64 ∧ ds.length = k ∧ (∀ d ∈ ds, d < B64) ∧ natOf ds + cc * B64 ^ k = natOf (xs.take k) * y + r ∧ WB wr g (over ws o ds) ∧ Only g w wr)
    (fun _ i _ => n - (intOf i).toNat)
  case atStart => exact ⟨0, [], _, Nat.zero_le _, rfl, rfl, hr, rfl, by simp, by simp [natOf], by rw [over_nil]; exact HB.out, Only.refl _ _⟩
  case round =>
    obtain ⟨k, ds, cc, hk, rfl, rfl, hcc, hdl, hdb, hsum, hblk, honly⟩ := hrel
    have HD := Lib.hid hdl; have HDB := Lib.hid hdb; have HS := Lib.hid hsum; have HBK := Lib.hid hblk; have HO := Lib.hid honly
    clear hdl hdb hsum hblk honly
    by_cases hlt : k < n
    · have hkx : k < xs.length := by rw [HXL.out]; exact hlt
      obtain ⟨xk, hxk⟩ : ∃ xk, xk = xs[k] := ⟨_, rfl⟩
      have cx' : wr.cell? ⟨bx, ox + k, none⟩ = some (.int .u64 (xk : Int)) := by rw [hxk]; exact HX.out.read HB.out HO.out HBK.out (by rw [HD.out]; omega) k (by rw [HD.out]; exact Nat.le_refl _) hkx
      have HXK := Lib.hid hxk; have hxk2 : xk < B64 := by rw [hxk]; exact lt_of_get HX.out.1 k hkx
      clear hxk
      obtain ⟨old, hold⟩ : ∃ old, wr.cell? ⟨g, o + k, none⟩ = some old := ⟨_, HBK.out.cell (o + k) _ (List.getElem?_eq_getElem (by rw [over_length (by rw [HD.out]; omega)]; omega))⟩
      have hfz : wr.frozen? ⟨g, o + k, none⟩ = false := HBK.out.frozen (o + k)
      have HC := Lib.hid (gMulAddWWW xk y cc hxk2 hy hcc wr)
      have HM := Lib.hid (mul_hi xk y cc hxk2 hy hcc).2.2
      obtain ⟨d, hd⟩ : ∃ d, d = (xk * y + cc) % B64 := ⟨_, rfl⟩
      obtain ⟨c', hc'⟩ : ∃ c', c' = (xk * y + cc) / B64 := ⟨_, rfl⟩
      rw [← hd, ← hc'] at HC
      rw [← hc'] at HM
      have HDD := Lib.hid hd; have HCC := Lib.hid hc'; clear hd hc'
      go_wp2_with (go_at_call 363; refine HC.out.mono ?_; rintro e w' ⟨rfl, rfl⟩)
      go_roundw
      case rel =>
        have hd : d < B64 := by rw [HDD.out]; exact Nat.mod_lt _ B64_pos
        refine ⟨k + 1, ds ++ [d], c', by omega, by go_num, rfl, HM.out, by simp [HD.out], lt_snoc HDB.out hd, ?_, ?_, HO.out.set_ _ _⟩
        · rw [natOf_snoc, HD.out, natOf_take_succ xs _ hkx, ← HXK.out, HDD.out, HCC.out]
          exact mulStep _ _ _ _ _ _ _ HS.out
        · have := HBK.out.set_ (o + k) d hd
          rw [← HD.out] at this ⊢
          rwa [over_snoc d (by rw [HD.out]; omega)] at this
      case measure => simp [intOf]; omega
    · obtain rfl : k = n := by omega
      go_wp2
      go_ret
      exact ⟨ds, cc, rfl, hcc, HD.out, HDB.out, by have h := HS.out; rwa [take_all HXL.out] at h, HBK.out, HO.out⟩
set_option maxRecDepth 100000 in
theorem vMulAddVWW (g o cz bx ox cx y r : Nat) (ws xs : List Nat) (n : Nat) (w : World) (hn : n ≤ 1000000) (hb : WB w g ws) (ho : o + n ≤ ws.length) (hx : Src w g o bx ox xs) (hxl : xs.length = n) (hy : y < B64) (hr : r < B64) :
    Calls Tryz.prog 301 #[.slice (some ⟨g, o, none⟩) n cz, .slice (some ⟨bx, ox, none⟩) n cx, .int .u64 y, .int .u64 r] w (RetV g ws o n (fun ds c => natOf ds + c * B64 ^ n = natOf xs * y + r) w) := by
  have H := Lib.hid (vMulAddVWWg g o cz bx ox cx y r ws xs n w hn hb ho hx hxl hy hr)
  clear hb ho hx hxl hy hr
  go_enter Tryz.func301, Tryz.ntmps301
  go_wp2_with (go_at_call 332; refine H.out.mono ?_; rintro e w' ⟨ds, c, rfl, hr⟩; have HR := Lib.hid hr; clear hr)
  go_ret
  exact ⟨ds, c, rfl, HR.out⟩
set_option maxRecDepth 100000 in
theorem vAddMulVVWWg (g o cz bx ox cx by_ oy cy m a : Nat) (ws xs ys : List Nat) (n : Nat) (w : World) (hn : n ≤ 1000000) (hb : WB w g ws) (ho : o + n ≤ ws.length) (hx : Src w g o bx ox xs) (hxl : xs.length = n) (hy : Src w g o by_ oy ys) (hyl : ys.length = n) (hm : m < B64) (ha : a < B64) :
    Calls Tryz.prog 330 #[.slice (some ⟨g, o, none⟩) n cz, .slice (some ⟨bx, ox, none⟩) n cx, .slice (some ⟨by_, oy, none⟩) n cy, .int .u64 m, .int .u64 a] w (RetV g ws o n (fun ds c => natOf ds + c * B64 ^ n = natOf xs + natOf ys * m + a) w) := by
  have HY := Lib.hid hy; have HYL := Lib.hid hyl
  clear hy hyl
  have HX := Lib.hid hx; have HB := Lib.hid hb; have HXL := Lib.hid hxl
  clear hx hb hxl
  go_enter Tryz.func330, Tryz.ntmps330
  go_wp2
  go_loopw [10, 32] (fun c i wr => ∃ (k : Nat) (ds : List Nat) (cc : Nat), k ≤ n ∧ i = .int .i64 k ∧ c = .int .u64 (cc : Int) ∧ cc < B64 ∧ ds.length = k ∧ (∀ d ∈ ds, d < B64) ∧ natOf ds + cc * B64 ^ k = natOf (xs.take k) + natOf (ys.take k) * m + a ∧ WB wr g (over ws o ds) ∧ Only g w wr)
    (fun _ i _ => n - (intOf i).toNat)
  case atStart => exact ⟨0, [], _, Nat.zero_le _, rfl, rfl, ha, rfl, by simp, by simp [natOf], by rw [over_nil]; exact HB.out, Only.refl _ _⟩
  case round =>
    obtain ⟨k, ds, cc, hk, rfl, rfl, hcc, hdl, hdb, hsum, hblk, honly⟩ := hrel
    have HD := Lib.hid hdl; have HDB := Lib.hid hdb; have HS := Lib.hid hsum; have HBK := Lib.hid hblk; have HO := Lib.hid honly
    clear hdl hdb hsum hblk honly
    by_cases hlt : k < n
    · have hkx : k < xs.length := by rw [HXL.out]; exact hlt
      have hky : k < ys.length := by rw [HYL.out]; exact hlt
      obtain ⟨xk, hxk⟩ : ∃ xk, xk = xs[k] := ⟨_, rfl⟩
      obtain ⟨yk, hyk⟩ : ∃ yk, yk = ys[k] := ⟨_, rfl⟩
      have cx' : wr.cell? ⟨bx, ox + k, none⟩ = some (.int .u64 (xk : Int)) := by rw [hxk]; exact HX.out.read HB.out HO.out HBK.out (by rw [HD.out]; omega) k (by rw [HD.out]; exact Nat.le_refl _) hkx
      have cy' : wr.cell? ⟨by_, oy + k, none⟩ = some (.int .u64 (yk : Int)) := by rw [hyk]; exact HY.out.read HB.out HO.out HBK.out (by rw [HD.out]; omega) k (by rw [HD.out]; exact Nat.le_refl _) hky
      have HXK := Lib.hid hxk; have hxk2 : xk < B64 := by rw [hxk]; exact lt_of_get HX.out.1 k hkx
      have HYK := Lib.hid hyk; have hyk2 : yk < B64 := by rw [hyk]; exact lt_of_get HY.out.1 k hky
      clear hxk hyk
      obtain ⟨old, hold⟩ : ∃ old, wr.cell? ⟨g, o + k, none⟩ = some old := ⟨_, HBK.out.cell (o + k) _ (List.getElem?_eq_getElem (by rw [over_length (by rw [HD.out]; omega)]; omega))⟩
      have hfz : wr.frozen? ⟨g, o + k, none⟩ = false := HBK.out.frozen (o + k)
      have HC := Lib.hid (fun W => gMulAddWWW yk m xk hyk2 hm hxk2 W)
      have HM := Lib.hid (addMul_hi yk m xk cc hyk2 hm hxk2 hcc)
      obtain ⟨p, hp⟩ : ∃ p, p = (yk * m + xk) % B64 := ⟨_, rfl⟩
      obtain ⟨q, hq⟩ : ∃ q, q = (yk * m + xk) / B64 := ⟨_, rfl⟩
      rw [← hp, ← hq] at HM HC
      have HA := Lib.hid (fun W => bitsAdd p cc 0 (by omega) W)
      rw [Nat.add_zero] at HA
      obtain ⟨u, hu⟩ : ∃ u, u = (p + cc) / B64 := ⟨_, rfl⟩
      obtain ⟨d, hd⟩ : ∃ d, d = (yk * m + xk + cc) % B64 := ⟨_, rfl⟩
      obtain ⟨c', hc'⟩ : ∃ c', c' = (yk * m + xk + cc) / B64 := ⟨_, rfl⟩
      rw [← hu, ← hd, ← hc'] at HM
      rw [← hu, HM.out.2.1] at HA
      have HU := Lib.hid (show u + q = c' ∧ c' < B64 from ⟨HM.out.1, HM.out.2.2⟩)
      have hu1 : (u : Int) + (q : Int) ≤ 18446744073709551615 := by have := HU.out; unfold B64 at this; omega
      have HDD := Lib.hid hd; have HCC := Lib.hid hc'; clear hd hc' hp hq hu HM
      go_wp2
      go_quiet ((go_at_call 363; exact Calls.quiet_of_same (HC.out _)))
      go_wp2_with (go_at_call 273; refine (HA.out _).mono ?_; rintro e w' ⟨rfl, rfl⟩)
      go_roundw
      case rel =>
        have hd : d < B64 := by rw [HDD.out]; exact Nat.mod_lt _ B64_pos
        refine ⟨k + 1, ds ++ [d], c', by omega, by go_num, by rw [← HU.out.1]; rfl, HU.out.2, by simp [HD.out], lt_snoc HDB.out hd, ?_, ?_, (HO.out.drewN nq).set_ _ _⟩
        · rw [natOf_snoc, HD.out, natOf_take_succ xs _ hkx, natOf_take_succ ys _ hky, ← HXK.out, ← HYK.out, HDD.out, HCC.out]
          exact addMulStep _ _ _ _ _ _ _ _ _ HS.out
        · have := (HBK.out.drewN nq).set_ (o + k) d hd
          rw [← HD.out] at this ⊢
          rwa [over_snoc d (by rw [HD.out]; omega)] at this
      case measure => simp [intOf]; omega
    · obtain rfl : k = n := by omega
      go_wp2
      go_ret
      exact ⟨ds, cc, rfl, hcc, HD.out, HDB.out, by have h := HS.out; rwa [take_all HXL.out, take_all HYL.out] at h, HBK.out, HO.out⟩
set_option maxRecDepth 100000 in
theorem vAddMulVVWW (g o cz bx ox cx by_ oy cy m a : Nat) (ws xs ys : List Nat) (n : Nat) (w : World) (hn : n ≤ 1000000) (hb : WB w g ws) (ho : o + n ≤ ws.length) (hx : Src w g o bx ox xs) (hxl : xs.length = n) (hy : Src w g o by_ oy ys) (hyl : ys.length = n) (hm : m < B64) (ha : a < B64) :
    Calls Tryz.prog 298 #[.slice (some ⟨g, o, none⟩) n cz, .slice (some ⟨bx, ox, none⟩) n cx, .slice (some ⟨by_, oy, none⟩) n cy, .int .u64 m, .int .u64 a] w (RetV g ws o n (fun ds c => natOf ds + c * B64 ^ n = natOf xs + natOf ys * m + a) w) := by
  have H := Lib.hid (vAddMulVVWWg g o cz bx ox cx by_ oy cy m a ws xs ys n w hn hb ho hx hxl hy hyl hm ha)
  clear hb ho hx hxl hy hyl hm ha
  go_enter Tryz.func298, Tryz.ntmps298
  go_wp2_with (go_at_call 330; refine H.out.mono ?_; rintro e w' ⟨ds, c, rfl, hr⟩; have HR := Lib.hid hr; clear hr)
  go_ret
  exact ⟨ds, c, rfl, HR.out⟩
set_option maxRecDepth 100000 in
theorem vAddVVg (g o cz bx ox cx by_ oy cy : Nat) (ws xs ys : List Nat) (n : Nat) (w : World) (hn : n ≤ 1000000) (hb : WB w g ws) (ho : o + n ≤ ws.length) (hx : Src w g o bx ox xs) (hxl : xs.length = n) (hy : Src w g o by_ oy ys) (hyl : ys.length = n) :
    Calls Tryz.prog 272 #[.slice (some ⟨g, o, none⟩) n cz, .slice (some ⟨bx, ox, none⟩) n cx, .slice (some ⟨by_, oy, none⟩) n cy] w (RetV g ws o n (fun ds c => c ≤ 1 ∧ natOf ds + c * B64 ^ n = natOf xs + natOf ys) w) := by
  have HY := Lib.hid hy; have HYL := Lib.hid hyl
  clear hy hyl
  have HX := Lib.hid hx; have HB := Lib.hid hb; have HXL := Lib.hid hxl
  clear hx hb hxl
  go_enter Tryz.func272, Tryz.ntmps272
  go_wp2
  go_loopw [6, 25] (fun c i wr => ∃ (k : Nat) (ds : List Nat) (cc : Nat), k ≤ n ∧ i = .int .i64 k ∧ c = .int .u64 (cc : Int) ∧ cc ≤ 1 ∧ ds.length = k ∧ (∀ d ∈ ds, d < B64) ∧ natOf ds + cc * B64 ^ k = natOf (xs.take k) + natOf (ys.take k) ∧ WB wr g (over ws o ds) ∧ Only g w wr)
    (fun _ i _ => n - (intOf i).toNat)
  case atStart => exact ⟨0, [], 0, Nat.zero_le _, rfl, rfl, Nat.zero_le _, rfl, by simp, by simp [natOf], by rw [over_nil]; exact HB.out, Only.refl _ _⟩
  case round =>
    obtain ⟨k, ds, cc, hk, rfl, rfl, hcc, hdl, hdb, hsum, hblk, honly⟩ := hrel
    have HD := Lib.hid hdl; have HDB := Lib.hid hdb; have HS := Lib.hid hsum; have HBK := Lib.hid hblk; have HO := Lib.hid honly
    clear hdl hdb hsum hblk honly
    by_cases hlt : k < n
    · have hkx : k < xs.length := by rw [HXL.out]; exact hlt
      have hky : k < ys.length := by rw [HYL.out]; exact hlt
      obtain ⟨xk, hxk⟩ : ∃ xk, xk = xs[k] := ⟨_, rfl⟩
      obtain ⟨yk, hyk⟩ : ∃ yk, yk = ys[k] := ⟨_, rfl⟩
      have cx' : wr.cell? ⟨bx, ox + k, none⟩ = some (.int .u64 (xk : Int)) := by rw [hxk]; exact HX.out.read HB.out HO.out HBK.out (by rw [HD.out]; omega) k (by rw [HD.out]; exact Nat.le_refl _) hkx
      have cy' : wr.cell? ⟨by_, oy + k, none⟩ = some (.int .u64 (yk : Int)) := by rw [hyk]; exact HY.out.read HB.out HO.out HBK.out (by rw [HD.out]; omega) k (by rw [HD.out]; exact Nat.le_refl _) hky
      have HXK := Lib.hid hxk; have hxk2 : xk < B64 := by rw [hxk]; exact lt_of_get HX.out.1 k hkx
      have HYK := Lib.hid hyk; have hyk2 : yk < B64 := by rw [hyk]; exact lt_of_get HY.out.1 k hky
      clear hxk hyk
      obtain ⟨old, hold⟩ : ∃ old, wr.cell? ⟨g, o + k, none⟩ = some old := ⟨_, HBK.out.cell (o + k) _ (List.getElem?_eq_getElem (by rw [over_length (by rw [HD.out]; omega)]; omega))⟩
      have hfz : wr.frozen? ⟨g, o + k, none⟩ = false := HBK.out.frozen (o + k)
      have HC := Lib.hid (fun W => bitsAdd xk yk cc hcc W)
      obtain ⟨d, hd⟩ : ∃ d, d = (xk + yk + cc) % B64 := ⟨_, rfl⟩
      obtain ⟨c', hc'⟩ : ∃ c' : Nat, c' = (xk + yk + cc) / B64 := ⟨_, rfl⟩
      rw [← hd, ← hc'] at HC
      have HDD := Lib.hid hd; have HCC := Lib.hid hc'; clear hd hc'
      go_wp2
      go_quiet ((go_at_call 273; exact Calls.quiet_of_same (HC.out _)))
      go_wp2
      go_roundw
      case rel =>
        have hd : d < B64 := by rw [HDD.out]; exact Nat.mod_lt _ B64_pos
        refine ⟨k + 1, ds ++ [d], c', by omega, by go_num, rfl, ?_, by simp [HD.out], lt_snoc HDB.out hd, ?_, ?_, (HO.out.drewN nq).set_ _ _⟩
        · rw [HCC.out]; exact carry_le _ _ _ hxk2 hyk2 hcc
        · rw [natOf_snoc, HD.out, natOf_take_succ xs _ hkx, natOf_take_succ ys _ hky, ← HXK.out, ← HYK.out, HDD.out, HCC.out]
          exact addStep _ _ _ _ _ _ _ HS.out
        · have := (HBK.out.drewN nq).set_ (o + k) d hd
          rw [← HD.out] at this ⊢
          rwa [over_snoc d (by rw [HD.out]; omega)] at this
      case measure => simp [intOf]; omega
    · obtain rfl : k = n := by omega
      go_wp2
      go_ret
      exact ⟨ds, cc, rfl, by unfold B64; omega, HD.out, HDB.out, ⟨hcc, by have h := HS.out; rwa [take_all HXL.out, take_all HYL.out] at h⟩, HBK.out, HO.out⟩
set_option maxRecDepth 100000 in
theorem vAddVV (g o cz bx ox cx by_ oy cy : Nat) (ws xs ys : List Nat) (n : Nat) (w : World) (hn : n ≤ 1000000) (hb : WB w g ws) (ho : o + n ≤ ws.length) (hx : Src w g o bx ox xs) (hxl : xs.length = n) (hy : Src w g o by_ oy ys) (hyl : ys.length = n) :
    Calls Tryz.prog 219 #[.slice (some ⟨g, o, none⟩) n cz, .slice (some ⟨bx, ox, none⟩) n cx, .slice (some ⟨by_, oy, none⟩) n cy] w (RetV g ws o n (fun ds c => c ≤ 1 ∧ natOf ds + c * B64 ^ n = natOf xs + natOf ys) w) := by
  have H := Lib.hid (vAddVVg g o cz bx ox cx by_ oy cy ws xs ys n w hn hb ho hx hxl hy hyl)
  clear hb ho hx hxl hy hyl
  go_enter Tryz.func219, Tryz.ntmps219
  go_wp2_with (go_at_call 272; refine H.out.mono ?_; rintro e w' ⟨ds, c, rfl, hr⟩; have HR := Lib.hid hr; clear hr)
  go_ret
  exact ⟨ds, c, rfl, HR.out⟩
set_option maxRecDepth 100000 in
theorem vSubVVg (g o cz bx ox cx by_ oy cy : Nat) (ws xs ys : List Nat) (n : Nat) (w : World) (hn : n ≤ 1000000) (hb : WB w g ws) (ho : o + n ≤ ws.length) (hx : Src w g o bx ox xs) (hxl : xs.length = n) (hy : Src w g o by_ oy ys) (hyl : ys.length = n) :
    Calls Tryz.prog 274 #[.slice (some ⟨g, o, none⟩) n cz, .slice (some ⟨bx, ox, none⟩) n cx, .slice (some ⟨by_, oy, none⟩) n cy] w (RetV g ws o n (fun ds c => c ≤ 1 ∧ natOf ds + natOf ys = natOf xs + c * B64 ^ n) w) := by
  have HY := Lib.hid hy; have HYL := Lib.hid hyl
  clear hy hyl
  have HX := Lib.hid hx; have HB := Lib.hid hb; have HXL := Lib.hid hxl
  clear hx hb hxl
  go_enter Tryz.func274, Tryz.ntmps274
  go_wp2
  go_loopw [6, 25] (fun c i wr => ∃ (k : Nat) (ds : List Nat) (cc : Nat), k ≤ n ∧ i = .int .i64 k ∧ c = .int .u64 (cc : Int) ∧ cc ≤ 1 ∧ ds.length = k ∧ (∀ d ∈ ds, d < B64) ∧ natOf ds + natOf (ys.take k) = natOf (xs.take k) + cc * B64 ^ k ∧ WB wr g (over ws o ds) ∧ Only g w wr)
    (fun _ i _ => n - (intOf i).toNat)
  case atStart => exact ⟨0, [], 0, Nat.zero_le _, rfl, rfl, Nat.zero_le _, rfl, by simp, by simp [natOf], by rw [over_nil]; exact HB.out, Only.refl _ _⟩
  case round =>
    obtain ⟨k, ds, cc, hk, rfl, rfl, hcc, hdl, hdb, hsum, hblk, honly⟩ := hrel
    have HD := Lib.hid hdl; have HDB := Lib.hid hdb; have HS := Lib.hid hsum; have HBK := Lib.hid hblk; have HO := Lib.hid honly
    clear hdl hdb hsum hblk honly
    by_cases hlt : k < n
    · have hkx : k < xs.length := by rw [HXL.out]; exact hlt
      have hky : k < ys.length := by rw [HYL.out]; exact hlt
      obtain ⟨xk, hxk⟩ : ∃ xk, xk = xs[k] := ⟨_, rfl⟩
      obtain ⟨yk, hyk⟩ : ∃ yk, yk = ys[k] := ⟨_, rfl⟩
      have cx' : wr.cell? ⟨bx, ox + k, none⟩ = some (.int .u64 (xk : Int)) := by rw [hxk]; exact HX.out.read HB.out HO.out HBK.out (by rw [HD.out]; omega) k (by rw [HD.out]; exact Nat.le_refl _) hkx
      have cy' : wr.cell? ⟨by_, oy + k, none⟩ = some (.int .u64 (yk : Int)) := by rw [hyk]; exact HY.out.read HB.out HO.out HBK.out (by rw [HD.out]; omega) k (by rw [HD.out]; exact Nat.le_refl _) hky
      have HXK := Lib.hid hxk; have hxk2 : xk < B64 := by rw [hxk]; exact lt_of_get HX.out.1 k hkx
      have HYK := Lib.hid hyk; have hyk2 : yk < B64 := by rw [hyk]; exact lt_of_get HY.out.1 k hky
      clear hxk hyk
      obtain ⟨old, hold⟩ : ∃ old, wr.cell? ⟨g, o + k, none⟩ = some old := ⟨_, HBK.out.cell (o + k) _ (List.getElem?_eq_getElem (by rw [over_length (by rw [HD.out]; omega)]; omega))⟩
      have hfz : wr.frozen? ⟨g, o + k, none⟩ = false := HBK.out.frozen (o + k)
      have HC := Lib.hid (fun W => bitsSub xk yk cc hcc W)
      obtain ⟨d, hd⟩ : ∃ d, d = (xk + B64 - yk - cc) % B64 := ⟨_, rfl⟩
      obtain ⟨c', hc'⟩ : ∃ c' : Nat, c' = (if xk < yk + cc then 1 else 0) := ⟨_, rfl⟩
      rw [← hd, ← hc'] at HC
      have HDD := Lib.hid hd; have HCC := Lib.hid hc'; clear hd hc'
      go_wp2
      go_quiet ((go_at_call 275; exact Calls.quiet_of_same (HC.out _)))
      go_wp2
      go_roundw
      case rel =>
        have hd : d < B64 := by rw [HDD.out]; exact Nat.mod_lt _ B64_pos
        refine ⟨k + 1, ds ++ [d], c', by omega, by go_num, rfl, ?_, by simp [HD.out], lt_snoc HDB.out hd, ?_, ?_, (HO.out.drewN nq).set_ _ _⟩
        · rw [HCC.out]; exact by split <;> omega
        · rw [natOf_snoc, HD.out, natOf_take_succ xs _ hkx, natOf_take_succ ys _ hky, ← HXK.out, ← HYK.out, HDD.out, HCC.out]
          exact subStep _ _ _ _ _ _ _ hcc hxk2 hyk2 HS.out
        · have := (HBK.out.drewN nq).set_ (o + k) d hd
          rw [← HD.out] at this ⊢
          rwa [over_snoc d (by rw [HD.out]; omega)] at this
      case measure => simp [intOf]; omega
    · obtain rfl : k = n := by omega
      go_wp2
      go_ret
      exact ⟨ds, cc, rfl, by unfold B64; omega, HD.out, HDB.out, ⟨hcc, by have h := HS.out; rwa [take_all HXL.out, take_all HYL.out] at h⟩, HBK.out, HO.out⟩
set_option maxRecDepth 100000 in
theorem vSubVV (g o cz bx ox cx by_ oy cy : Nat) (ws xs ys : List Nat) (n : Nat) (w : World) (hn : n ≤ 1000000) (hb : WB w g ws) (ho : o + n ≤ ws.length) (hx : Src w g o bx ox xs) (hxl : xs.length = n) (hy : Src w g o by_ oy ys) (hyl : ys.length = n) :
    Calls Tryz.prog 222 #[.slice (some ⟨g, o, none⟩) n cz, .slice (some ⟨bx, ox, none⟩) n cx, .slice (some ⟨by_, oy, none⟩) n cy] w (RetV g ws o n (fun ds c => c ≤ 1 ∧ natOf ds + natOf ys = natOf xs + c * B64 ^ n) w) := by
  have H := Lib.hid (vSubVVg g o cz bx ox cx by_ oy cy ws xs ys n w hn hb ho hx hxl hy hyl)
  clear hb ho hx hxl hy hyl
  go_enter Tryz.func222, Tryz.ntmps222
  go_wp2_with (go_at_call 274; refine H.out.mono ?_; rintro e w' ⟨ds, c, rfl, hr⟩; have HR := Lib.hid hr; clear hr)
  go_ret
  exact ⟨ds, c, rfl, HR.out⟩
end Go.Proofs.YtfafiahefjimdaaGreatDoor

namespace Go.Proofs.YtfafiahefjimdaaGreatDoor
open Go Go.RowKit

/-- A slice of words that starts its block g and has all of it for its room. -/
def NatV (w : World) (A : Option Addr) (c g : Nat) (ws : List Nat) : Prop :=
  (A = none ∧ c = 0 ∧ ws = []) ∨ (A = some ⟨g, 0, none⟩ ∧ (0 < c ∧ c ≤ 1000000) ∧ ws.length ≤ c ∧ ∃ full, WB w g full ∧ full.length = c ∧ ws = full.take ws.length)
/-- A number that is read while block gz may be written: it lies elsewhere, or is what lies at gz's head. -/
def Opd (w : World) (gz cz : Nat) (A : Option Addr) (c : Nat) (xs : List Nat) : Prop :=
  (∀ x ∈ xs, x < B64) ∧ xs.length ≤ c ∧ (xs ≠ [] → ∃ g o, A = some ⟨g, o, none⟩ ∧ (∃ cs, Blk w g 221 cs) ∧ (∀ j (h : j < xs.length), w.cell? ⟨g, o + j, none⟩ = some (.int .u64 (xs[j] : Int))) ∧ (g ≠ gz ∨ (g = gz ∧ o = 0 ∧ c = cz)))
/-- What a function hands back that makes a number in a receiver's room. -/
def RetN (gz N : Nat) (w : World) (e : Ending) (w' : World) : Prop :=
  ∃ A c g ws, e = .returned (.slice A ws.length c) ∧ NatV w' A c g ws ∧ Norm ws ∧ natOf ws = N ∧ Only gz w w' ∧ (g = gz ∨ w.heap.size ≤ g)
/-- Where make found room. -/
def Made (gz g : Nat) (w w' : World) : Prop := (g = gz ∧ w' = w) ∨ (w.heap.size ≤ g ∧ Ext w w')
def RetMk (gz n : Nat) (w : World) (e : Ending) (w' : World) : Prop :=
  ∃ g c full, e = .returned (.slice (some ⟨g, 0, none⟩) n c) ∧ (n ≤ c ∧ c ≤ 1000000) ∧ WB w' g full ∧ full.length = c ∧ Made gz g w w'

theorem NatV.nil (w : World) (g : Nat) : NatV w none 0 g [] := Or.inl ⟨rfl, rfl, rfl⟩
theorem NatV.lt64 {w : World} {A : Option Addr} {c g : Nat} {ws : List Nat} (h : NatV w A c g ws) : ∀ x ∈ ws, x < B64 := by
  rcases h with ⟨_, _, rfl⟩ | ⟨_, _, _, full, hb, _, e⟩
  · simp
  · intro x hx; rw [e] at hx; exact hb.2 x (List.mem_of_mem_take hx)
theorem NatV.le {w : World} {A : Option Addr} {c g : Nat} {ws : List Nat} (h : NatV w A c g ws) : ws.length ≤ c := by
  rcases h with ⟨_, _, rfl⟩ | ⟨_, _, h, _⟩
  · simp
  · exact h
theorem NatV.cell {w : World} {A : Option Addr} {c g : Nat} {ws : List Nat} (h : NatV w A c g ws) (hn : ws ≠ []) : A = some ⟨g, 0, none⟩ ∧ (∃ cs, Blk w g 221 cs) ∧ ∀ j (hj : j < ws.length), w.cell? ⟨g, 0 + j, none⟩ = some (.int .u64 (ws[j] : Int)) := by
  rcases h with ⟨_, _, rfl⟩ | ⟨hA, _, _, full, hb, hl, e⟩
  · exact absurd rfl hn
  · refine ⟨hA, ⟨_, hb.1⟩, fun j hj => ?_⟩
    rw [Nat.zero_add]
    refine hb.cell j _ ?_
    have : ws[j]? = some ws[j] := List.getElem?_eq_getElem hj
    have e2 : (full.take ws.length)[j]? = full[j]? := by rw [List.getElem?_take, if_pos hj]
    rw [← e2, ← e]; exact this
theorem NatV.words {w : World} {A : Option Addr} {c g : Nat} {ws : List Nat} (h : NatV w A c g ws) : Words w A ws :=
  ⟨h.lt64, fun hn => by
    obtain ⟨hA, hb, hc⟩ := h.cell hn
    exact ⟨g, 0, hA, hb, hc⟩⟩
/-- The same room, with nothing in it. -/
theorem NatV.room {w : World} {A : Option Addr} {c g : Nat} {ws : List Nat} (h : NatV w A c g ws) : NatV w A c g [] := by
  rcases h with ⟨h1, h2, _⟩ | ⟨hA, h0, _, full, hb, hl, _⟩
  · exact Or.inl ⟨h1, h2, rfl⟩
  · exact Or.inr ⟨hA, h0, by simp, full, hb, hl, by simp⟩
theorem NatV.ext {w w' : World} {A : Option Addr} {c g : Nat} {ws : List Nat} (h : NatV w A c g ws) (e : Ext w w') : NatV w' A c g ws := by
  rcases h with h | ⟨hA, h0, hc, full, hb, hr⟩
  · exact Or.inl h
  · exact Or.inr ⟨hA, h0, hc, full, hb.ext e, hr⟩
theorem NatV.only {w w' : World} {A : Option Addr} {c g gz : Nat} {ws : List Nat} (h : NatV w A c g ws) (e : Only gz w w') (hne : A ≠ none → g ≠ gz) : NatV w' A c g ws := by
  rcases h with h | ⟨hA, h0, hc, full, hb, hr⟩
  · exact Or.inl h
  · exact Or.inr ⟨hA, h0, hc, full, hb.only e (hne (by rw [hA]; simp)), hr⟩
theorem NatV.opd {w : World} {A : Option Addr} {c g : Nat} {ws : List Nat} (h : NatV w A c g ws) (gz cz : Nat) (hs : g ≠ gz ∨ c = cz) : Opd w gz cz A c ws :=
  ⟨h.lt64, h.le, fun hn => by
    obtain ⟨hA, hb, hc⟩ := h.cell hn
    refine ⟨g, 0, hA, hb, hc, ?_⟩
    by_cases e : g = gz
    · exact Or.inr ⟨e, rfl, hs.resolve_left (fun k => k e)⟩
    · exact Or.inl e⟩
theorem opd_of_words {w : World} {A : Option Addr} {c gz cz : Nat} {xs : List Nat} (h : Words w A xs) (hl : xs.length ≤ c) (hz : ∀ a, A = some a → a.block ≠ gz) : Opd w gz cz A c xs :=
  ⟨h.1, hl, fun hn => by
    obtain ⟨g, o, hA, hb, hc⟩ := h.2 hn
    exact ⟨g, o, hA, hb, hc, Or.inl (hz _ hA)⟩⟩
theorem Opd.ext {w w' : World} {gz cz : Nat} {A : Option Addr} {c : Nat} {xs : List Nat} (h : Opd w gz cz A c xs) (e : Ext w w') : Opd w' gz cz A c xs :=
  ⟨h.1, h.2.1, fun hn => by
    obtain ⟨g, o, hA, ⟨cs, hb⟩, hc, hr⟩ := h.2.2 hn
    exact ⟨g, o, hA, ⟨cs, hb.ext e⟩, fun j hj => e.cell' (hc j hj), hr⟩⟩
theorem Opd.words {w : World} {gz cz : Nat} {A : Option Addr} {c : Nat} {xs : List Nat} (h : Opd w gz cz A c xs) : Words w A xs :=
  ⟨h.1, fun hn => by
    obtain ⟨g, o, hA, hb, hc, _⟩ := h.2.2 hn
    exact ⟨g, o, hA, hb, hc⟩⟩
/-- Behind make the operand can be read while the made room is written. -/
theorem Opd.src {w w' : World} {gz cz g : Nat} {A : Option Addr} {c : Nat} {xs : List Nat} (h : Opd w gz cz A c xs) (hn : xs ≠ []) (hm : Made gz g w w') : ∃ bx ox, A = some ⟨bx, ox, none⟩ ∧ Src w' g 0 bx ox xs := by
  obtain ⟨bx, ox, hA, ⟨cs, hb⟩, hc, hr⟩ := h.2.2 hn
  refine ⟨bx, ox, hA, h.1, ?_, ?_⟩
  · rcases hm with ⟨_, rfl⟩ | ⟨_, e⟩
    · exact hc
    · exact fun j hj => e.cell' (hc j hj)
  · rcases hm with ⟨rfl, rfl⟩ | ⟨hg, e⟩
    · rcases hr with hr | ⟨h1, h2, _⟩
      · exact Or.inl hr
      · exact Or.inr ⟨h1, h2⟩
    · have := hb.lt; exact Or.inl (by omega)
theorem Made.only {gz g : Nat} {w w1 w2 : World} (h : Made gz g w w1) (k : Only g w1 w2) : Only gz w w2 := by
  rcases h with ⟨rfl, rfl⟩ | ⟨hg, e⟩
  · exact k
  · exact Only.of_ext (Only.ext e k hg)
theorem Made.where_ {gz g : Nat} {w w1 : World} (h : Made gz g w w1) : g = gz ∨ w.heap.size ≤ g := by
  rcases h with ⟨h, _⟩ | ⟨h, _⟩
  · exact Or.inl h
  · exact Or.inr h

set_option maxRecDepth 100000 in
theorem gMake (A : Option Addr) (n0 c gz : Nat) (zs : List Nat) (n : Nat) (w : World) (hz : NatV w A c gz zs) (h1 : 1 ≤ n) (h2 : n ≤ 100001) :
    Calls Tryz.prog 218 #[.slice A n0 c, .int .i64 n] w (RetMk gz n w) := by
  by_cases hfit : n ≤ c
  · rcases hz with ⟨_, rfl, _⟩ | ⟨rfl, h0, _, full, hb, hl, _⟩
    · omega
    · have HB := Lib.hid hb; have HL := Lib.hid hl; clear hb hl
      have hd : decide ((n : Int) ≤ (c : Int)) = true := by simp; omega
      go_enter Tryz.func218, Tryz.ntmps218
      go_wp2
      go_ret
      exact ⟨gz, c, full, rfl, ⟨hfit, h0.2⟩, HB.out, HL.out, Or.inl ⟨rfl, rfl⟩⟩
  · clear hz
    have hd : decide ((n : Int) ≤ (c : Int)) = false := by simp; omega
    obtain ⟨i0, hi, hz0, hz1, hz2⟩ := info_parts infoWord
    have key : ∀ k : Nat, WB (w.alloc (.cells (Array.replicate k (.int .u64 0)) 221)) w.heap.size (List.replicate k 0) := fun k =>
      ⟨by have := blkMake w k (.int .u64 0) 221; rwa [show List.replicate k (Value.int .u64 0) = (List.replicate k 0).map wv by rw [List.map_replicate]; rfl] at this, by intro x hx; rw [List.eq_of_mem_replicate hx]; exact B64_pos⟩
    have HK := Lib.hid key; clear key
    by_cases e : n = 1
    · subst e
      have hmk : ∀ w, (Instr.makeSlice 171 (.int .i64 1) (.int .i64 1)).run Tryz.prog w = .ok (.slice (some ⟨w.heap.size, 0, none⟩) 1 1) (w.alloc (.cells #[.int .u64 0] 221)) := fun _ => by kernel_rfl
      have hd' : decide ((1 : Int) ≤ (c : Int)) = false := by simp; omega
      clear hd hfit
      go_enter Tryz.func218, Tryz.ntmps218
      go_wp2
      go_ret
      exact ⟨w.heap.size, 1, [0], rfl, ⟨Nat.le_refl _, by omega⟩, HK.out 1, rfl, Or.inr ⟨Nat.le_refl _, Ext.alloc' _ _⟩⟩
    · have e1 : ((n : Int) == 1) = false := by simp; omega
      have hmk : ∀ W : World, (Instr.makeSlice 171 (.int .i64 (n : Int)) (.int .i64 ((n : Int) + 4))).run Tryz.prog W = .ok (.slice (some ⟨W.heap.size, 0, none⟩) n (n + 4)) (W.alloc (.cells (Array.replicate (n + 4) (.int .u64 0)) 221)) := fun W => by
        rw [run_make (P := Tryz.prog) W 171 221 i0 (.int .u64 0) Tryz.underlying171 hi hz0 .i64 .i64 (n : Int) ((n : Int) + 4) (by omega) (by omega) (by rw [hz2]; omega) (by omega), hz1]
        have e2 : ((n : Int) + 4).toNat * 1 = n + 4 := by omega
        have e3 : madeCells (Value.cells (.int .u64 0)) (n + 4) = (List.replicate (n + 4) (Value.int .u64 0)).toArray := by
          rw [← toList_madeCells_one]; rfl
        rw [e2, e3, List.toArray_replicate]; congr 2
      go_enter Tryz.func218, Tryz.ntmps218
      go_wp2
      go_ret
      exact ⟨w.heap.size, n + 4, _, rfl, by omega, HK.out (n + 4), by simp, Or.inr ⟨Nat.le_refl _, Ext.alloc' _ _⟩⟩

/-- The room cut to nothing. -/
theorem retN_zero {w : World} {A : Option Addr} {c gz : Nat} {zs : List Nat} (hz : NatV w A c gz zs) : RetN gz 0 w (.returned (.slice A 0 c)) w :=
  ⟨A, c, gz, [], rfl, hz.room, norm_nil, rfl, Only.refl _ _, Or.inl rfl⟩
/-- What norm leaves of words that were written. -/
theorem norm_end {gz g c : Nat} {w w1 w2 : World} {full ds es : List Nat} {N : Nat} (hm : Made gz g w w1) (ho : Only g w1 w2) (hb : WB w2 g (over full 0 ds)) (hl : full.length = c) (hc : 0 < c ∧ c ≤ 1000000) (hd : ds.length ≤ c) (he : es = ds.take es.length) (hN : Norm es) (hv : natOf es = natOf ds) (hN2 : natOf ds = N) :
    RetN gz N w (.returned (.slice (some ⟨g, 0, none⟩) es.length c)) w2 := by
  have hel : es.length ≤ ds.length := by
    have := congrArg List.length he
    simp only [List.length_take] at this; omega
  refine ⟨_, c, g, es, rfl, Or.inr ⟨rfl, hc, by omega, _, hb, by rw [over_length (by omega)]; exact hl, ?_⟩, hN, by rw [hv, hN2], hm.only ho, hm.where_⟩
  rw [he]
  unfold over
  simp only [List.take_zero, List.nil_append]
  rw [List.length_take, Nat.min_eq_left hel, List.take_append_of_le_length hel]
theorem wb_cells {w : World} {g : Nat} {full ds : List Nat} (hb : WB w g (over full 0 ds)) (hd : ds.length ≤ full.length) : ∀ j (h : j < ds.length), w.cell? ⟨g, 0 + j, none⟩ = some (.int .u64 (ds[j] : Int)) := fun j h => by
  rw [Nat.zero_add]
  refine hb.cell j _ ?_
  rw [over_get (by omega), if_neg (by omega), if_pos (by omega)]
  exact List.getElem?_eq_getElem h

set_option maxRecDepth 100000 in
theorem gSetWord (A : Option Addr) (n0 c gz : Nat) (zs : List Nat) (x : Nat) (w : World) (hz : NatV w A c gz zs) (hx : x < B64) :
    Calls Tryz.prog 282 #[.slice A n0 c, .int .u64 x] w (RetN gz x w) := by
  by_cases h0 : x = 0
  · subst h0
    have HR := Lib.hid (retN_zero hz)
    rcases hz with ⟨rfl, rfl, _⟩ | ⟨rfl, hc, _⟩
    · go_enter Tryz.func282, Tryz.ntmps282
      go_wp2
      go_ret
      exact HR.out
    · go_enter Tryz.func282, Tryz.ntmps282
      go_wp2
      go_ret
      exact HR.out
  · have e0 : ((x : Int) == 0) = false := by simp; omega
    have H := Lib.hid (gMake A n0 c gz zs 1 w hz (Nat.le_refl _) (by omega))
    clear hz
    go_enter Tryz.func282, Tryz.ntmps282
    go_wp2_with (fail)
    go_at_call 218
    refine H.out.mono ?_
    rintro e w1 ⟨g, c', full, rfl, hc, hb, hl, hm⟩
    obtain ⟨old, hold⟩ : ∃ old, w1.cell? ⟨g, 0, none⟩ = some old := ⟨_, hb.cell 0 _ (List.getElem?_eq_getElem (by omega))⟩
    have hfz := hb.frozen 0
    have HB := Lib.hid hb; have HL := Lib.hid hl; have HM := Lib.hid hm; clear hb hl hm
    go_wp2
    go_ret
    have hs := HB.out.set_ 0 x hx
    rw [show full.set 0 x = over full 0 [x] by have := over_snoc (ws := full) (o := 0) (ds := []) x (by simp; have := HL.out; omega); rwa [over_nil] at this] at hs
    exact norm_end (es := [x]) HM.out ((Only.refl _ _).set_ _ _) hs HL.out (by omega) (by simp; omega) (by simp) (by intro y hy; simp at hy; omega) rfl (natOf_one x)
end Go.Proofs.YtfafiahefjimdaaGreatDoor

namespace Go.Proofs.YtfafiahefjimdaaGreatDoor
open Go Go.RowKit

/-- A question answered; at most draws were made. -/
def RetQ' (b : Bool) (w : World) (e : Ending) (w' : World) : Prop := e = .returned (.bool b) ∧ ∃ n, w' = w.drewN n

set_option maxRecDepth 100000 in
theorem gAliasNil (n0 : Nat) (B : Option Addr) (n cb : Nat) (w : World) :
    Calls Tryz.prog 260 #[.slice none n0 0, .slice B n cb] w (RetQ' false w) := by
  go_enter Tryz.func260, Tryz.ntmps260
  go_wp2
  go_quiet (fail)
  go_wp2
  go_ret
  exact ⟨rfl, _, rfl⟩
set_option maxRecDepth 100000 in
theorem gAliasTwo (gz n0 c gx ox n d : Nat) (b : Bool) (w : World) (hc : c ≤ 1000000000000) (hd : d ≤ 1000000000000) (hq : ∀ W : World, (∃ k, W = w.drewN k) → (binOp .eql 290 (.pointer (some ⟨gz, c, none⟩)) (.pointer (some ⟨gx, ox + d, none⟩))).run Tryz.prog W = .ok (.bool b) W) :
    Calls Tryz.prog 260 #[.slice (some ⟨gz, 0, none⟩) n0 (c + 1), .slice (some ⟨gx, ox, none⟩) n (d + 1)] w (RetQ' b w) := by
  have q0 : ∀ k, (binOp .eql 290 (.pointer (some ⟨gz, c, none⟩)) (.pointer (some ⟨gx, ox + d, none⟩))).run Tryz.prog (w.drewN k) = .ok (.bool b) (w.drewN k) := fun k => hq _ ⟨k, rfl⟩
  have q1 : (binOp .eql 290 (.pointer (some ⟨gz, c, none⟩)) (.pointer (some ⟨gx, ox + d, none⟩))).run Tryz.prog w = .ok (.bool b) w := hq _ ⟨0, rfl⟩
  clear hq
  have g1 : decide ((0 : Int) < (c : Int) + 1) = true := by simp
  have g2 : decide ((0 : Int) < (d : Int) + 1) = true := by simp
  go_enter Tryz.func260, Tryz.ntmps260
  go_wp2
  go_quiet (fail)
  go_wp2
  go_ret
  exact ⟨rfl, _, rfl⟩

theorem word_ptr (W : World) {a b : Addr} {ca cb : List Value} (ha : Blk W a.block 221 ca) (hb : Blk W b.block 221 cb) (hne : a ≠ b) :
    (binOp .eql 290 (.pointer (some a)) (.pointer (some b))).run Tryz.prog W = .ok (.bool false) W := by
  obtain ⟨j, hj, hs⟩ : ∃ j, Tryz.prog.info? 221 = some j ∧ j.size ≠ 0 := by
    have h : (Tryz.prog.info? 221).map (·.size) = some 1 := by kernel_rfl
    obtain ⟨j, h1, h2⟩ := Option.map_eq_some_iff.1 h
    exact ⟨j, h1, by rw [h2]; decide⟩
  have h : ∀ d : Nat, (Op.equalIn (d + 1) 290 (.pointer (some a)) (.pointer (some b))).run Tryz.prog W = .ok false W := fun d => by
    simp [Op.equalIn, run_underlying Tryz.underlying290, sizeOf, typeInfo, hj, hs, run_sameAddr_other W (a := a) (b := b) hne ha hb]
  simp only [binOp]
  simp [Op.equal, Op.maxDepth, h 9999]
theorem word_ptr_same (W : World) (a : Addr) : (binOp .eql 290 (.pointer (some a)) (.pointer (some a))).run Tryz.prog W = .ok (.bool true) W := by
  have h : ∀ d : Nat, (Op.equalIn (d + 1) 290 (.pointer (some a)) (.pointer (some a))).run Tryz.prog W = .ok true W := fun d => by
    simp [Op.equalIn, run_underlying Tryz.underlying290, run_sameAddr_same]
  simp only [binOp]
  simp [Op.equal, Op.maxDepth, h 9999]

/-- alias tells whether two slices share their block: where it says no, the operand lies elsewhere. -/
def RetAl (A B : Option Addr) (gz : Nat) (w : World) (e : Ending) (w' : World) : Prop := ∃ b, (b = false → A = none ∨ ∀ a, B = some a → a.block ≠ gz) ∧ RetQ' b w e w'
theorem gAlias (A : Option Addr) (n0 c gz : Nat) (zs : List Nat) (B : Option Addr) (n cb : Nat) (xs : List Nat) (w : World) (hz : NatV w A c gz zs) (hx : Opd w gz c B cb xs) (hne : xs ≠ []) (hcb : A = none ∨ cb ≤ 1000000) :
    Calls Tryz.prog 260 #[.slice A n0 c, .slice B n cb] w (RetAl A B gz w) := by
  rcases hz with ⟨rfl, rfl, _⟩ | ⟨rfl, h0, _, full, hb, hl, _⟩
  · exact (gAliasNil n0 B n cb w).mono fun e w' h => ⟨false, fun _ => Or.inl rfl, h⟩
  · obtain ⟨g, o, rfl, ⟨cs, hk⟩, _, hr⟩ := hx.2.2 hne
    have hlen := hx.2.1
    have hpos := List.length_pos_iff.2 hne
    have hcb' : cb ≤ 1000000 := by
      rcases hcb with h | h
      · cases h
      · exact h
    obtain ⟨c', rfl⟩ : ∃ c', c = c' + 1 := ⟨c - 1, by omega⟩
    obtain ⟨d, rfl⟩ : ∃ d, cb = d + 1 := ⟨cb - 1, by omega⟩
    rcases hr with hr | ⟨rfl, rfl, hcc⟩
    · refine (gAliasTwo gz n0 c' g o n d false w (by omega) (by omega) ?_).mono fun e w' h => ⟨false, fun _ => Or.inr fun a ha => by injection ha with ha; subst ha; exact hr, h⟩
      rintro W ⟨k, rfl⟩
      exact word_ptr _ (a := ⟨gz, c', none⟩) (b := ⟨g, o + d, none⟩) (hb.1.drewN k) (hk.drewN k) (by intro e; injection e with e; exact hr e.symm)
    · refine (gAliasTwo g n0 c' g 0 n d true w (by omega) (by omega) ?_).mono fun e w' h => ⟨true, (fun k => by cases k), h⟩
      rintro W ⟨k, rfl⟩
      obtain rfl : d = c' := by omega
      rw [Nat.zero_add]
      exact word_ptr_same _ _
end Go.Proofs.YtfafiahefjimdaaGreatDoor

namespace Go.Proofs.YtfafiahefjimdaaGreatDoor
open Go Go.RowKit

theorem norm_len {ws : List Nat} (h : ws ≠ []) : 0 < ws.length := List.length_pos_iff.2 h

set_option maxRecDepth 100000 in
theorem gMulAddWW (A : Option Addr) (n0 c gz : Nat) (zs : List Nat) (B : Option Addr) (cb : Nat) (xs : List Nat) (m y r : Nat) (w : World) (hz : NatV w A c gz zs) (hx : Opd w gz c B cb xs) (hm : xs.length = m) (hn : m ≤ 100000) (hy : y < B64) (hr : r < B64) :
    Calls Tryz.prog 266 #[.slice A n0 c, .slice B m cb, .int .u64 y, .int .u64 r] w (RetN gz (natOf xs * y + r) w) := by
  by_cases h0 : m = 0 ∨ y = 0
  · have HS := Lib.hid (gSetWord A n0 c gz zs r w hz hr)
    have hv : natOf xs * y + r = r := by
      rcases h0 with h0 | h0
      · subst h0
        rw [List.eq_nil_of_length_eq_zero hm]; simp [natOf]
      · subst h0; simp
    rw [hv]
    clear hz hx hm hr hv
    by_cases hm0 : m = 0
    · subst hm0
      go_enter Tryz.func266, Tryz.ntmps266
      go_wp2_with (fail)
      go_at_call 282
      refine HS.out.mono ?_
      rintro e w1 ⟨A1, c1, g1, ws, rfl, hR⟩
      have HR := Lib.hid hR; clear hR
      go_wp2
      go_ret
      exact ⟨A1, c1, g1, ws, rfl, HR.out⟩
    · have e0 : ((m : Int) == 0) = false := by simp; omega
      obtain rfl : y = 0 := h0.resolve_left hm0
      go_enter Tryz.func266, Tryz.ntmps266
      go_wp2_with (fail)
      go_at_call 282
      refine HS.out.mono ?_
      rintro e w1 ⟨A1, c1, g1, ws, rfl, hR⟩
      have HR := Lib.hid hR; clear hR
      go_wp2
      go_ret
      exact ⟨A1, c1, g1, ws, rfl, HR.out⟩
  · have hm0 : ¬ m = 0 := fun k => h0 (Or.inl k)
    have hy0 : ¬ y = 0 := fun k => h0 (Or.inr k)
    have e0 : ((m : Int) == 0) = false := by simp; omega
    have e1 : ((y : Int) == 0) = false := by simp; omega
    have hne : xs ≠ [] := by intro e; subst e; simp at hm; omega
    have H := Lib.hid (gMake A n0 c gz zs (m + 1) w hz (by omega) (by omega))
    rw [show ((m + 1 : Nat) : Int) = (m : Int) + 1 by omega] at H
    have HX := Lib.hid hx; have HL := Lib.hid hm
    clear h0 hz hx hm
    obtain ⟨bx0, ox0, hB, _⟩ := HX.out.2.2 hne
    subst hB
    go_enter Tryz.func266, Tryz.ntmps266
    go_wp2_with (fail)
    go_at_call 218
    refine H.out.mono ?_
    rintro e w1 ⟨g, c', full, rfl, hc, hb, hl, hmd⟩
    obtain ⟨bx, ox, hA, hsrc⟩ := HX.out.src hne hmd
    injection hA with hA; injection hA with h1 h2 h3; subst h1; subst h2
    have HC := Lib.hid (vMulAddVWW g 0 c' bx0 ox0 cb y r full xs m w1 (by omega) hb (by omega) hsrc HL.out hy hr)
    have HB := Lib.hid hb; have HF := Lib.hid hl; have HM := Lib.hid hmd; clear hb hl hmd hsrc h3
    go_wp2_with (fail)
    go_at_call 301
    refine HC.out.mono ?_
    rintro e w2 ⟨ds, cc, rfl, hcc, hdl, hdb, hv, hwb, hon⟩
    obtain ⟨old, hold⟩ : ∃ old, w2.cell? ⟨g, m, none⟩ = some old := ⟨_, hwb.cell m _ (List.getElem?_eq_getElem (by rw [over_length (by have := HF.out; omega)]; have := HF.out; omega))⟩
    have hfz := hwb.frozen m
    have HW := Lib.hid (show WB (w2.setCell ⟨g, m, none⟩ (.int .u64 (cc : Int))) g (over full 0 (ds ++ [cc])) by
      have := hwb.set_ m cc hcc
      rw [show m = 0 + ds.length by omega] at this ⊢
      rwa [over_snoc cc (by have := HF.out; omega)] at this)
    have HN := Lib.hid (natNorm g 0 c' (ds ++ [cc]) (m + 1) (w2.setCell ⟨g, m, none⟩ (.int .u64 (cc : Int))) (by simp [hdl]) (by omega) hc.1 (wb_cells HW.out (by simp [hdl]; have := HF.out; omega)))
    rw [show ((m + 1 : Nat)) = m + 1 from rfl] at HN
    have HV := Lib.hid (show natOf (ds ++ [cc]) = natOf xs * y + r by rw [natOf_snoc, hdl, Nat.mul_comm]; exact hv)
    have HO := Lib.hid (hon.set_ m (.int .u64 (cc : Int))); have HDL := Lib.hid hdl
    clear hv hwb hon hdl hdb
    go_wp2_with (fail)
    go_at_call 221
    refine HN.out.mono ?_
    rintro e w3 ⟨es, rfl, rfl, he, hN, hve⟩
    have HE := Lib.hid he; have HEN := Lib.hid hN; have HEV := Lib.hid hve; clear he hN hve
    go_wp2
    go_ret
    exact norm_end HM.out HO.out HW.out HF.out (by omega) (by simp [HDL.out]; omega) HE.out HEN.out HEV.out HV.out
end Go.Proofs.YtfafiahefjimdaaGreatDoor

namespace Go.Proofs.YtfafiahefjimdaaGreatDoor
open Go Go.RowKit

set_option maxRecDepth 100000 in
theorem gMulA {stk : Value} (A : Option Addr) (n0 c gz : Nat) (zs : List Nat) (B D : Option Addr) (cb cd : Nat) (xs ys : List Nat) (m n : Nat) (w : World) (hz : NatV w A c gz zs) (hx : Opd w gz c B cb xs) (hy : Opd w gz c D cd ys) (hm : xs.length = m) (hn : ys.length = n) (hmx : m ≤ 100000) (h1 : n ≤ 1) (hle : n ≤ m) :
    Calls Tryz.prog 216 #[.slice A n0 c, stk, .slice B m cb, .slice D n cd] w (RetN gz (natOf xs * natOf ys) w) := by
  have e0 : decide ((m : Int) < (n : Int)) = false := by simp; omega
  by_cases hn0 : n = 0
  · subst hn0
    have hys : ys = [] := List.eq_nil_of_length_eq_zero hn
    have hv : natOf xs * natOf ys = 0 := by rw [hys]; simp [natOf]
    rw [hv]
    have HR := Lib.hid (retN_zero hz)
    clear hx hy hm hn hv
    have e0' : decide ((m : Int) < 0) = false := by simp
    by_cases hm0 : m = 0
    · subst hm0
      rcases hz with ⟨rfl, rfl, _⟩ | ⟨rfl, hc, _⟩
      · go_enter Tryz.func216, Tryz.ntmps216
        go_wp2
        go_ret
        exact HR.out
      · go_enter Tryz.func216, Tryz.ntmps216
        go_wp2
        go_ret
        exact HR.out
    · have e1 : ((m : Int) == 0) = false := by simp; omega
      rcases hz with ⟨rfl, rfl, _⟩ | ⟨rfl, hc, _⟩
      · go_enter Tryz.func216, Tryz.ntmps216
        go_wp2
        go_ret
        exact HR.out
      · go_enter Tryz.func216, Tryz.ntmps216
        go_wp2
        go_ret
        exact HR.out
  · obtain rfl : n = 1 := by omega
    obtain ⟨y, rfl⟩ := List.length_eq_one_iff.1 hn
    have e1 : ((m : Int) == 0) = false := by simp; omega
    obtain ⟨by0, oy, rfl, ⟨cs, hbl⟩, hcell, _⟩ := hy.2.2 (by simp)
    have hcy : w.cell? ⟨by0, oy, none⟩ = some (.int .u64 (y : Int)) := hcell 0 (by simp)
    have hyb := hy.1 y (by simp)
    have H := Lib.hid (gMulAddWW A n0 c gz zs B cb xs m y 0 w hz hx hm hmx hyb B64_pos)
    rw [show natOf xs * y + 0 = natOf xs * natOf [y] by rw [natOf_one]; rfl] at H
    have hcd : 1 ≤ cd := hy.2.1
    clear hz hx hy hm hn hcell hyb
    have e2 : decide ((m : Int) < 1) = false := by simp; omega
    go_enter Tryz.func216, Tryz.ntmps216
    go_wp2_with (fail)
    go_at_call 266
    refine H.out.mono ?_
    rintro e w1 ⟨A1, c1, g1, ws, rfl, hR⟩
    have HR := Lib.hid hR; clear hR
    go_wp2
    go_ret
    exact ⟨A1, c1, g1, ws, rfl, HR.out⟩

set_option maxRecDepth 100000 in
theorem gMul1 {stk : Value} (A : Option Addr) (n0 c gz : Nat) (zs : List Nat) (B D : Option Addr) (cb cd : Nat) (xs ys : List Nat) (m n : Nat) (w : World) (hz : NatV w A c gz zs) (hx : Opd w gz c B cb xs) (hy : Opd w gz c D cd ys) (hm : xs.length = m) (hn : ys.length = n) (hmx : m ≤ 100000) (hnx : n ≤ 100000) (h1 : n ≤ 1 ∨ m ≤ 1) :
    Calls Tryz.prog 216 #[.slice A n0 c, stk, .slice B m cb, .slice D n cd] w (RetN gz (natOf xs * natOf ys) w) := by
  by_cases hle : n ≤ m
  · exact gMulA A n0 c gz zs B D cb cd xs ys m n w hz hx hy hm hn hmx (by omega) hle
  · have H := Lib.hid (gMulA (stk := stk) A n0 c gz zs D B cd cb ys xs n m w hz hy hx hn hm hnx (by omega) (by omega))
    rw [Nat.mul_comm] at H
    have e0 : decide ((m : Int) < (n : Int)) = true := by simp; omega
    clear hz hx hy
    go_enter Tryz.func216, Tryz.ntmps216
    go_wp2_with (fail)
    go_at_call 216
    refine H.out.mono ?_
    rintro e w1 ⟨A1, c1, g1, ws, rfl, hR⟩
    have HR := Lib.hid hR; clear hR
    go_wp2
    go_ret
    exact ⟨A1, c1, g1, ws, rfl, HR.out⟩
end Go.Proofs.YtfafiahefjimdaaGreatDoor

namespace Go.Proofs.YtfafiahefjimdaaGreatDoor
open Go Go.RowKit

/-- A number made in no room of the caller's. -/
theorem RetN.nat {gz N : Nat} {w : World} {e : Ending} {w' : World} (h : RetN gz N w e w') (hg : w.heap.size ≤ gz) : RetNat N w e w' := by
  obtain ⟨A, c, g, ws, rfl, hv, hn, hN, ho, _⟩ := h
  exact ⟨A, c, ws, rfl, hv.le, hv.words, hn, hN, Only.ext (Ext.refl _) ho hg⟩
/-- A quotient and a word. -/
def RetQW (N r : Nat) (w : World) (e : Ending) (w' : World) : Prop :=
  ∃ A c ws, e = .returned (.tuple #[.slice A ws.length c, .int .u64 (r : Int)]) ∧ ws.length ≤ c ∧ Words w' A ws ∧ Norm ws ∧ natOf ws = N ∧ Ext w w'
/-- A quotient and a remainder. -/
def RetQR (N M : Nat) (w : World) (e : Ending) (w' : World) : Prop :=
  ∃ A c ws B d vs, e = .returned (.tuple #[.slice A ws.length c, .slice B vs.length d]) ∧ (ws.length ≤ c ∧ Words w' A ws ∧ Norm ws ∧ natOf ws = N) ∧ (vs.length ≤ d ∧ Words w' B vs ∧ Norm vs ∧ natOf vs = M) ∧ Ext w w'

set_option maxRecDepth 100000 in
theorem bDiv64Low (x y q r : Nat) (w : World) (hq : q = x / y) (hr : r = x % y) (hx : x < B64) (h0 : 0 < y) :
    Calls Tryz.prog 373 #[.int .u64 0, .int .u64 x, .int .u64 y] w (fun e w' => e = .returned (.tuple #[.int .u64 (q : Int), .int .u64 (r : Int)]) ∧ ∃ n, w' = w.drewN n) := by
  have e0 : ((y : Int) == 0) = false := by simp; omega
  have e1 : ¬ (y : Int) ≤ 0 := by omega
  have e2 : ¬ (y : Int) = 0 := by omega
  have HQ := Lib.hid hq; have HR := Lib.hid hr; have HB := Lib.hid hx; clear hq hr hx
  go_enter Tryz.func373, Tryz.ntmps373
  go_upto_region 6 with fail
  go_quiet (fail)
  go_wp2
  go_ret2
  have hlt : q < B64 := by rw [HQ.out]; exact Nat.lt_of_le_of_lt (Nat.div_le_self _ _) HB.out
  have hqw : IntKind.u64.wrap ((x : Int) / (y : Int)) = (q : Int) := by
    rw [show (x : Int) / (y : Int) = ((x / y : Nat) : Int) by rfl, ← HQ.out]
    have := hlt
    unfold B64 at this
    simp only [IntKind.wrap_u64]
    omega
  have hrw : (x : Int) % (y : Int) = (r : Int) := by rw [HR.out]; rfl
  refine ⟨?_, _, rfl⟩
  show Ending.returned (Value.tuple #[Value.int IntKind.u64 (IntKind.u64.wrap ((x : Int) / (y : Int))), Value.int IntKind.u64 ((x : Int) % (y : Int))]) = _
  rw [hqw, hrw]
set_option maxRecDepth 100000 in
theorem bDivLow (x y q r : Nat) (w : World) (hq : q = x / y) (hr : r = x % y) (hx : x < B64) (h0 : 0 < y) :
    Calls Tryz.prog 337 #[.int .u64 0, .int .u64 x, .int .u64 y] w (fun e w' => e = .returned (.tuple #[.int .u64 (q : Int), .int .u64 (r : Int)]) ∧ ∃ n, w' = w.drewN n) := by
  have H := Lib.hid (bDiv64Low x y q r w hq hr hx h0)
  clear hq hr hx h0
  go_enter Tryz.func337, Tryz.ntmps337
  go_wp2_with (go_at_call 373; refine H.out.mono ?_; rintro e w' ⟨rfl, n, rfl⟩)
  go_ret2
  exact ⟨rfl, n, rfl⟩

set_option maxRecDepth 100000 in
theorem vDivLow (g c bx ox cx : Nat) (x y q r : Nat) (ws : List Nat) (w : World) (hb : WB w g ws) (hl : 1 ≤ ws.length) (hx : w.cell? ⟨bx, ox, none⟩ = some (.int .u64 (x : Int))) (hq : q = x / y) (hr : r = x % y) (hxb : x < B64) (h0 : 0 < y) :
    Calls Tryz.prog 311 #[.slice (some ⟨g, 0, none⟩) 1 c, .int .u64 0, .slice (some ⟨bx, ox, none⟩) 1 cx, .int .u64 y] w (fun e w' => e = .returned (.int .u64 (r : Int)) ∧ ∃ n, w' = (w.drewN n).setCell ⟨g, 0, none⟩ (.int .u64 (q : Int))) := by
  have H := Lib.hid (bDivLow x y q r w hq hr hxb h0)
  obtain ⟨old, hold⟩ : ∃ old, ∀ n, (w.drewN n).cell? ⟨g, 0, none⟩ = some old := ⟨_, fun n => (hb.drewN n).cell 0 (ws[0]'(by omega)) (List.getElem?_eq_getElem (by omega))⟩
  have hfz : ∀ n, (w.drewN n).frozen? ⟨g, 0, none⟩ = false := fun n => (hb.drewN n).frozen 0
  clear hq hr hb hxb h0
  go_enter Tryz.func311, Tryz.ntmps311
  go_wp2_with (go_at_call 337; refine H.out.mono ?_; rintro e w' ⟨rfl, n, rfl⟩; have ho := hold n; have hz := hfz n)
  go_ret
  exact ⟨rfl, n, rfl⟩

set_option maxRecDepth 100000 in
/-- divW, the receiver nil, the numerator of one word at most. -/
theorem gDivW1 (B : Option Addr) (cb : Nat) (xs : List Nat) (m y : Nat) (w : World) (hx : Words w B xs) (hN : Norm xs) (hm : xs.length = m) (h1 : m ≤ 1) (hcb : m ≤ cb) (hy : y < B64) (h0 : 0 < y) :
    Calls Tryz.prog 281 #[.slice none 0 0, .slice B m cb, .int .u64 y] w (RetQW (natOf xs / y) (natOf xs % y) w) := by
  have e0 : ((y : Int) == 0) = false := by simp; omega
  by_cases hy1 : y = 1
  · subst hy1
    have HS := Lib.hid (natSet B cb xs w hx (by omega) hN)
    rw [hm] at HS
    rw [Nat.div_one, Nat.mod_one]
    clear hx hN hm h1 hcb hy h0 e0
    go_enter Tryz.func281, Tryz.ntmps281
    go_wp2_with (go_at_call 217; refine HS.out.mono ?_; rintro e w1 ⟨A1, c1, ws, rfl, hR⟩; have HR := Lib.hid hR; clear hR)
    go_ret2
    exact ⟨A1, c1, ws, rfl, HR.out⟩
  · have e1 : ((y : Int) == 1) = false := by simp; omega
    by_cases hm0 : m = 0
    · subst hm0
      have hxs : xs = [] := List.eq_nil_of_length_eq_zero hm
      have HV := Lib.hid (show RetQW (natOf xs / y) (natOf xs % y) w (.returned (.tuple #[.slice none 0 0, .int .u64 ((0 : Nat) : Int)])) w by
        rw [hxs]; exact ⟨none, 0, [], by simp [natOf], Nat.le_refl _, ⟨by simp, fun h => absurd rfl h⟩, norm_nil, by simp [natOf], Ext.refl _⟩)
      clear hx hN hm h1 hcb hy h0
      go_enter Tryz.func281, Tryz.ntmps281
      go_wp2
      go_ret2
      exact HV.out
    · obtain rfl : m = 1 := by omega
      obtain ⟨x, rfl⟩ := List.length_eq_one_iff.1 hm
      obtain ⟨bx, ox, rfl, ⟨cs, hbl⟩, hcell⟩ := hx.2 (by simp)
      have hxb := hx.1 x (by simp)
      have hcx : w.cell? ⟨bx, ox, none⟩ = some (.int .u64 (x : Int)) := hcell 0 (by simp)
      obtain ⟨q, hq⟩ : ∃ q, q = x / y := ⟨_, rfl⟩
      obtain ⟨r, hr⟩ : ∃ r, r = x % y := ⟨_, rfl⟩
      rw [natOf_one, ← hq, ← hr]
      have H := Lib.hid (gMake none 0 0 w.heap.size [] 1 w (NatV.nil _ _) (Nat.le_refl _) (by omega))
      have HP := Lib.hid (show q < B64 by rw [hq]; exact Nat.lt_of_le_of_lt (Nat.div_le_self _ _) hxb)
      have HK := Lib.hid (fun (g : Nat) (c : Nat) (ws : List Nat) (w1 : World) hb hl hc => vDivLow g c bx ox cb x y q r ws w1 hb hl hc hq hr hxb h0)
      clear hx hN hm h1 hcell hy h0 hq hr hxb
      have HCX := Lib.hid hcx; clear hcx
      go_enter Tryz.func281, Tryz.ntmps281
      go_wp2_with (fail)
      go_at_call 218
      refine H.out.mono ?_
      rintro e w1 ⟨g, c', full, rfl, hc, hb, hl, hmd⟩
      have hex : Ext w w1 := by
        rcases hmd with ⟨_, rfl⟩ | ⟨_, e⟩
        · exact Ext.refl _
        · exact e
      have hgn : w.heap.size ≤ g := by rcases hmd.where_ with h | h <;> omega
      have HC := Lib.hid (HK.out g c' full w1 hb (by omega) (hex.cell' HCX.out))
      have HB := Lib.hid hb; have HL := Lib.hid hl; have HM := Lib.hid hmd; have HG := Lib.hid hgn; have HE := Lib.hid hex
      clear hb hl hmd hgn hex
      go_wp2_with (fail)
      go_at_call 311
      refine HC.out.mono ?_
      rintro e w2 ⟨rfl, n, rfl⟩
      have hs := (HB.out.drewN n).set_ 0 q HP.out
      rw [show full.set 0 q = over full 0 [q] by have := over_snoc (ws := full) (o := 0) (ds := []) q (by simp; have := HL.out; omega); rwa [over_nil] at this] at hs
      have HW := Lib.hid hs; clear hs
      have HN := Lib.hid (natNorm g 0 c' [q] 1 ((w1.drewN n).setCell ⟨g, 0, none⟩ (.int .u64 (q : Int))) rfl (by omega) hc.1 (wb_cells HW.out (by simp; have := HL.out; omega)))
      go_wp2_with (fail)
      go_at_call 221
      refine HN.out.mono ?_
      rintro e w3 ⟨es, rfl, rfl, he, hN2, hve⟩
      have HEN := Lib.hid (norm_end (N := q) HM.out (((Only.refl g w1).drewN n).set_ 0 (.int .u64 (q : Int))) HW.out HL.out (by omega) (by simp; omega) he hN2 hve (natOf_one q))
      clear he hN2 hve
      go_wp2
      go_ret2
      obtain ⟨A2, c2, g2, ws2, he2, hv2, hn2, hN3, ho2, hg2⟩ := HEN.out
      injection he2 with he2; injection he2 with h1 h2 h3
      subst h1; subst h3
      exact ⟨some ⟨g, 0, none⟩, c', ws2, by rw [← h2]; rfl, hv2.le, hv2.words, hn2, hN3, Only.ext (Ext.refl _) ho2 (Nat.le_refl _)⟩

set_option maxRecDepth 100000 in
/-- div, receivers nil, one word over one word. -/
theorem gDiv1 (B D : Option Addr) (cb cd : Nat) (xs ys : List Nat) (m : Nat) (w : World) (hx : Words w B xs) (hN : Norm xs) (hm : xs.length = m) (h1 : m ≤ 1) (hcb : m ≤ cb) (hy : Words w D ys) (hNy : Norm ys) (hl : ys.length = 1) :
    Calls Tryz.prog 234 #[.slice none 0 0, .pointer none, .slice none 0 0, .slice B m cb, .slice D 1 cd] w (RetQR (natOf xs / natOf ys) (natOf xs % natOf ys) w) := by
  obtain ⟨y, rfl⟩ := List.length_eq_one_iff.1 hl
  obtain ⟨by0, oy, rfl, ⟨cs, hbl⟩, hcell⟩ := hy.2 (by simp)
  have hyb := hy.1 y (by simp)
  have hy0 : 0 < y := Nat.pos_of_ne_zero (hNy y (by simp))
  have hcy : w.cell? ⟨by0, oy, none⟩ = some (.int .u64 (y : Int)) := hcell 0 (by simp)
  rw [natOf_one]
  have H := Lib.hid (gDivW1 B cb xs m y w hx hN hm h1 hcb hyb hy0)
  obtain ⟨q, hq⟩ : ∃ q, q = natOf xs / y := ⟨_, rfl⟩
  obtain ⟨r, hr⟩ : ∃ r, r = natOf xs % y := ⟨_, rfl⟩
  have HRB := Lib.hid (show r < B64 by rw [hr]; exact Nat.lt_trans (Nat.mod_lt _ hy0) hyb)
  rw [← hq, ← hr] at H
  rw [← hq, ← hr]
  clear hx hN hm h1 hcb hy hNy hl hcell hyb hy0 hq hr
  go_enter Tryz.func234, Tryz.ntmps234
  go_wp2_with (fail)
  go_at_call 281
  refine H.out.mono ?_
  rintro e w1 ⟨A1, c1, ws, rfl, hR⟩
  have HR := Lib.hid hR; clear hR
  have HS := Lib.hid (gSetWord none 0 0 w1.heap.size [] r w1 (NatV.nil _ _) HRB.out)
  go_wp2_with (fail)
  go_at_call 282
  refine HS.out.mono ?_
  rintro e w2 hr2
  obtain ⟨A2, c2, vs, rfl, hR2⟩ := RetN.nat hr2 (Nat.le_refl _)
  have HR2 := Lib.hid hR2; clear hR2 hr2
  go_wp2
  go_ret2
  obtain ⟨h1, h2, h3, h4, h5⟩ := HR.out
  obtain ⟨k1, k2, k3, k4, k5⟩ := HR2.out
  exact ⟨A1, c1, ws, A2, c2, vs, rfl, ⟨h1, h2.ext k5, h3, h4⟩, ⟨k1, k2, k3, k4⟩, h5.trans' k5⟩
end Go.Proofs.YtfafiahefjimdaaGreatDoor
