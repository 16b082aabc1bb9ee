/-
  Words on memory, of no program: a world that only grows ('Ext'), a slice of machine words, a big integer behind a pointer, and lists of records. Plain lemmas.
  Contracts of bigall's small functions: NewInt, Sign, make.
  Contracts of bits.Add and bits.Sub.
  Contracts of bigall's vector loops: addVV, subVV.
  Contracts of nat's make, norm and set.
  Contracts of nat's add and sub, for numbers of one length.
  Contracts of nat's add and sub, for numbers of at most one word.
  The contract of nat's cmp.
  Contracts of big.Int's methods on a fresh receiver.
  Contracts of what reads a big integer: Sign, Bits, Cmp, IsInt64, Int64.
  Contracts of cosmosmath.Int's methods that read, for numbers of at most one word.
-/
import Derived.WalkKit
import Derived.Lib.Hide
import Derived.Deep.Draws
import Derived.Laws.Rows
import Derived.Maps.AppendAt
import Derived.Test.YtfafiahefjimdaaGreatDoorChecked
import Derived.WalkLawsBesides
import Derived.WalkSpells
import Derived.Outline
import Derived.Laws.Externs
import Derived.Deep.QuietTactic
import Derived.BigQuiet
import Derived.Laws.CopyOwn
import Derived.Deep.RegionHeld3
import Derived.Deep.RegionLaw
import Derived.Handy
namespace Go.Proofs.YtfafiahefjimdaaGreatDoor
open Go Go.RowKit

/-- The digit base: 2^64, behind a name. -/
def B64 : Nat := 18446744073709551616
theorem B64_eq : B64 = 18446744073709551616 := rfl
theorem B64_pos : 0 < B64 := by unfold B64; omega

def natOf : List Nat → Nat
  | [] => 0
  | x :: xs => x + B64 * natOf xs

/-- All that was there stands. -/
abbrev Ext (w w' : World) : Prop := Below w.heap.size w w'

theorem cell_lt {w : World} {p : Addr} {v : Value} (h : w.cell? p = some v) : p.block < w.heap.size := by
  unfold World.cell? at h
  rcases Nat.lt_or_ge p.block w.heap.size with hlt | hge
  · exact hlt
  · rw [Array.getElem?_eq_none hge] at h; cases h

theorem Ext.refl (w : World) : Ext w w := Below.refl _ _
theorem Ext.trans' {a b c : World} (h : Ext a b) (k : Ext b c) : Ext a c := Below.trans h (Below.mono k h.size)
theorem Ext.cell' {w w' : World} {p : Addr} {v : Value} (h : Ext w w') (hc : w.cell? p = some v) : w'.cell? p = some v := (Below.cell h (cell_lt hc)).trans hc
theorem Ext.alloc' (w : World) (o : Obj) : Ext w (w.alloc o) := (Below.refl _ _).alloc (Nat.le_refl _) o
theorem Ext.drewN' (w : World) (n : Nat) : Ext w (w.drewN n) := ⟨rfl, rfl, rfl, Nat.le_refl _, fun _ _ => rfl⟩
theorem Below.drewN' {B : Nat} {a w : World} (h : Below B a w) (n : Nat) : Below B a (w.drewN n) := ⟨h.os, h.tape, h.output, h.size, h.block⟩

/-- Block g is just these cells, none frozen. -/
def Blk (w : World) (g : Nat) (t : TypeId) (cs : List Value) : Prop := w.heap[g]? = some (.cells cs.toArray t (0, 0))
theorem Blk.lt {w : World} {g : Nat} {t : TypeId} {cs : List Value} (h : Blk w g t cs) : g < w.heap.size := (Array.getElem?_eq_some_iff.1 h).1
theorem Blk.cell {w : World} {g : Nat} {t : TypeId} {cs : List Value} (h : Blk w g t cs) (i : Nat) : w.cell? ⟨g, i, none⟩ = cs[i]? := by
  unfold Blk at h
  simp only [World.cell?, h]; simp
theorem Blk.frozen {w : World} {g : Nat} {t : TypeId} {cs : List Value} (h : Blk w g t cs) (i : Nat) : w.frozen? ⟨g, i, none⟩ = false := by
  unfold Blk at h
  simp [World.frozen?, h]
theorem Blk.new (w : World) (t : TypeId) (cs : List Value) : Blk (w.alloc (.cells cs.toArray t)) w.heap.size t cs := heap_alloc_new w _
theorem Blk.alloc {w : World} {g : Nat} {t : TypeId} {cs : List Value} (h : Blk w g t cs) (o : Obj) : Blk (w.alloc o) g t cs := (Below.heap_alloc w o g h.lt).trans h
theorem Blk.set_ {w : World} {g : Nat} {t : TypeId} {cs : List Value} (h : Blk w g t cs) (i : Nat) (u : Value) : Blk (w.setCell ⟨g, i, none⟩ u) g t (cs.set i u) := by
  unfold Blk at h ⊢
  simp [World.setCell, Array.getElem?_modify, h]
theorem Blk.ext {w w' : World} {g : Nat} {t : TypeId} {cs : List Value} (h : Blk w g t cs) (e : Ext w w') : Blk w' g t cs := (e.block g h.lt).trans h
theorem Blk.drewN {w : World} {g : Nat} {t : TypeId} {cs : List Value} (h : Blk w g t cs) (n : Nat) : Blk (w.drewN n) g t cs := h
theorem Blk.ne {w : World} {g g' : Nat} {t t' : TypeId} {cs cs' : List Value} (h : Blk w g t cs) (h' : Blk w g' t' cs') (hne : t ≠ t') : g ≠ g' := by
  rintro rfl
  unfold Blk at h h'
  rw [h] at h'
  injection h' with h'
  injection h' with _ ht
  exact hne ht

/-- A slice value whose n = ws.length words are ws. -/
def Words (w : World) (A : Option Addr) (ws : List Nat) : Prop :=
  (∀ x ∈ ws, x < B64) ∧ (ws ≠ [] → ∃ g o, A = some ⟨g, o, none⟩ ∧ (∃ cs, Blk w g 221 cs) ∧ ∀ j (h : j < ws.length), w.cell? ⟨g, o + j, none⟩ = some (.int .u64 (ws[j] : Int)))

theorem Words.get {w : World} {A : Option Addr} {ws : List Nat} (h : Words w A ws) (hn : ws ≠ []) : ∃ g o, A = some ⟨g, o, none⟩ ∧ ∀ j (h : j < ws.length), w.cell? ⟨g, o + j, none⟩ = some (.int .u64 (ws[j] : Int)) := by
  obtain ⟨g, o, ha, _, hc⟩ := h.2 hn
  exact ⟨g, o, ha, hc⟩
theorem Words.ext {w w' : World} {A : Option Addr} {ws : List Nat} (h : Words w A ws) (e : Ext w w') : Words w' A ws :=
  ⟨h.1, fun hn => by
    obtain ⟨g, o, ha, ⟨cs, hb⟩, hc⟩ := h.2 hn
    exact ⟨g, o, ha, ⟨cs, hb.ext e⟩, fun j hj => e.cell' (hc j hj)⟩⟩

/-- The words end in one that is not 0. -/
def Norm (ws : List Nat) : Prop := ∀ x, ws.getLast? = some x → x ≠ 0

/-- The sign and the words of a big integer: its value. -/
def bigVal (neg : Bool) (ws : List Nat) : Int := if neg then -(natOf ws : Int) else (natOf ws : Int)

/-- A big integer whose record is block b, not frozen. -/
def BigAt (w : World) (b : Nat) (z : Int) : Prop :=
  ∃ A c ws neg, Blk w b 173 [.bool neg, .slice A ws.length c] ∧ Words w A ws ∧ ws.length ≤ c ∧ Norm ws ∧ (ws = [] → neg = false) ∧ z = bigVal neg ws
/-- v points to a big integer of value z. -/
def IsBig (w : World) (v : Value) (z : Int) : Prop := ∃ b, v = .pointer (some ⟨b, 0, none⟩) ∧ BigAt w b z
theorem BigAt.big {w : World} {b : Nat} {z : Int} (h : BigAt w b z) : IsBig w (.pointer (some ⟨b, 0, none⟩)) z := ⟨b, rfl, h⟩
theorem BigAt.lt {w : World} {b : Nat} {z : Int} (h : BigAt w b z) : b < w.heap.size := by
  obtain ⟨A, c, ws, neg, hb, _⟩ := h
  exact hb.lt
theorem BigAt.ext {w w' : World} {b : Nat} {z : Int} (h : BigAt w b z) (e : Ext w w') : BigAt w' b z := by
  obtain ⟨A, c, ws, neg, hb, hw, hr⟩ := h
  exact ⟨A, c, ws, neg, hb.ext e, hw.ext e, hr⟩
theorem IsBig.ext {w w' : World} {v : Value} {z : Int} (h : IsBig w v z) (e : Ext w w') : IsBig w' v z := by
  obtain ⟨b, hv, h⟩ := h
  exact ⟨b, hv, h.ext e⟩

/-- A slice of records of two cells: what they are by index. -/
def Recs {α : Type} (R : World → Value → Value → α → Prop) (w : World) (A : Option Addr) (l : List α) : Prop :=
  l ≠ [] → ∃ g o, A = some ⟨g, o, none⟩ ∧ ∀ j (h : j < l.length), ∃ u v, w.cell? ⟨g, o + 2 * j, none⟩ = some u ∧ w.cell? ⟨g, o + (2 * j + 1), none⟩ = some v ∧ R w u v l[j]

/-- A record with a text and an int64 (SumCoin, impl.Coin). -/
def PlainC (_ : World) (u v : Value) (x : ByteArray × Int) : Prop := u = .string x.1 ∧ v = .int .i64 x.2
/-- A coin: a text and a big integer. -/
def BigC (w : World) (u v : Value) (x : ByteArray × Int) : Prop := u = .string x.1 ∧ IsBig w v x.2

theorem Recs.ext {α : Type} {R : World → Value → Value → α → Prop} (hR : ∀ w w' u v x, Ext w w' → R w u v x → R w' u v x) {w w' : World} {A : Option Addr} {l : List α} (h : Recs R w A l) (e : Ext w w') : Recs R w' A l := fun hn => by
  obtain ⟨g, o, ha, hc⟩ := h hn
  exact ⟨g, o, ha, fun j hj => by
    obtain ⟨u, v, h1, h2, h3⟩ := hc j hj
    exact ⟨u, v, e.cell' h1, e.cell' h2, hR _ _ _ _ _ e h3⟩⟩
theorem PlainC.ext (w w' : World) (u v : Value) (x : ByteArray × Int) (_ : Ext w w') (h : PlainC w u v x) : PlainC w' u v x := h
theorem BigC.ext (w w' : World) (u v : Value) (x : ByteArray × Int) (e : Ext w w') (h : BigC w u v x) : BigC w' u v x := ⟨h.1, h.2.ext e⟩

theorem cell_new (w : World) (cs : Array Value) (t : TypeId) (i : Nat) : (w.alloc (.cells cs t)).cell? ⟨w.heap.size, i, none⟩ = cs[i]? := by
  have h : (w.alloc (.cells cs t)).heap[w.heap.size]? = some (.cells cs t (0, 0)) := heap_alloc_new w _
  simp only [World.cell?, h]; rfl
theorem cell_old {w : World} {p : Addr} {v : Value} (o : Obj) (h : w.cell? p = some v) : (w.alloc o).cell? p = some v := (Ext.alloc' w o).cell' h

theorem natOf_one (x : Nat) : natOf [x] = x := by simp [natOf]

/-- What NewInt lays for a number of one word that is not 0. -/
theorem isBig_one (w : World) (x : Nat) (neg : Bool) (hx : x < B64) (h0 : x ≠ 0) :
    IsBig ((w.alloc (.cells #[.int .u64 (x : Int)] 221)).alloc (.cells #[.bool neg, .slice (some ⟨w.heap.size, 0, none⟩) 1 1] 173)) (.pointer (some ⟨w.heap.size + 1, 0, none⟩)) (bigVal neg [x]) := by
  have hs : (w.alloc (.cells #[.int .u64 (x : Int)] 221)).heap.size = w.heap.size + 1 := by simp
  refine ⟨w.heap.size + 1, rfl, some ⟨w.heap.size, 0, none⟩, 1, [x], neg, ?_, ⟨?_, fun _ => ⟨w.heap.size, 0, rfl, ⟨_, (Blk.new w _ [.int .u64 (x : Int)]).ext (Ext.alloc' _ _)⟩, ?_⟩⟩, Nat.le_refl _, ?_, by simp, rfl⟩
  · rw [← hs]; exact Blk.new _ _ [.bool neg, .slice (some ⟨w.heap.size, 0, none⟩) 1 1]
  · simpa using hx
  · intro j hj
    have : j = 0 := by simpa using hj
    subst this
    exact cell_old _ (by rw [Nat.zero_add, cell_new]; rfl)
  · intro y hy; simp at hy; omega
theorem isBig_zero (w : World) (A : Option Addr) (c : Nat) : IsBig (w.alloc (.cells #[.bool false, .slice A 0 c] 173)) (.pointer (some ⟨w.heap.size, 0, none⟩)) 0 :=
  ⟨w.heap.size, rfl, A, c, [], false, Blk.new _ _ [.bool false, .slice A 0 c], ⟨by simp, fun h => absurd rfl h⟩, Nat.zero_le _, by intro y hy; simp at hy, fun _ => rfl, rfl⟩

/-- Only block g, and what is new, has turned. -/
abbrev Only (g : Nat) (w w' : World) : Prop := w.grownBy w' (some g)
theorem Only.refl (g : Nat) (w : World) : Only g w w := World.grownBy.refl w _
theorem Only.cell {g : Nat} {w w' : World} (h : Only g w w') {p : Addr} {v : Value} (hc : w.cell? p = some v) (hne : p.block ≠ g) : w'.cell? p = some v :=
  (World.cell?_of_block (h.block p.block (cell_lt hc) (fun e => hne (by injection e)))).trans hc
theorem Only.drewN {g : Nat} {a w : World} (h : Only g a w) (n : Nat) : Only g a (w.drewN n) := ⟨h.os, h.tape, h.output, h.size, h.block⟩
theorem Only.set_ {g : Nat} {a w : World} (h : Only g a w) (i : Nat) (u : Value) : Only g a (w.setCell ⟨g, i, none⟩ u) :=
  ⟨h.os, h.tape, h.output, by simpa [World.setCell] using h.size, fun i hi hne => (Below.heap_setCell w _ u i (by rintro rfl; exact hne rfl)).trans (h.block i hi hne)⟩
theorem Only.trans' {g : Nat} {a b c : World} (h : Only g a b) (k : Only g b c) : Only g a c := World.grownBy.trans h k
/-- A block that is new does not count. -/
theorem Only.ext {g : Nat} {a b w : World} (e : Ext a b) (h : Only g b w) (hg : a.heap.size ≤ g) : Ext a w :=
  ⟨h.os.trans e.os, h.tape.trans e.tape, h.output.trans e.output, Nat.le_trans e.size h.size, fun k hk => (h.block k (Nat.lt_of_lt_of_le hk e.size) (fun ee => by injection ee with ee; omega)).trans (e.block k hk)⟩

/-- The first words of a block overwritten. -/
def wv (x : Nat) : Value := .int .u64 (x : Int)
def putw (cs : List Value) (ds : List Nat) : List Value := ds.map wv ++ cs.drop ds.length
theorem putw_nil (cs : List Value) : putw cs [] = cs := rfl
theorem putw_length (cs : List Value) (ds : List Nat) (h : ds.length ≤ cs.length) : (putw cs ds).length = cs.length := by simp [putw]; omega
theorem putw_set (cs : List Value) (ds : List Nat) (d : Nat) (h : ds.length < cs.length) : (putw cs ds).set ds.length (wv d) = putw cs (ds ++ [d]) := by
  unfold putw
  rw [List.set_append_right _ _ (by simp)]
  simp only [List.length_map, Nat.sub_self, List.map_append, List.map_cons, List.map_nil, List.append_assoc, List.length_append, List.length_cons, List.length_nil]
  rw [List.drop_eq_getElem_cons h, List.set_cons_zero]
  rfl
theorem putw_get (cs : List Value) (ds : List Nat) (j : Nat) (h : j < ds.length) : (putw cs ds)[j]? = some (wv ds[j]) := by
  unfold putw
  rw [List.getElem?_append_left (by simpa using h)]
  simp [h]
theorem natOf_append (xs ys : List Nat) : natOf (xs ++ ys) = natOf xs + B64 ^ xs.length * natOf ys := by
  induction xs with
  | nil => simp [natOf]
  | cons x xs ih => simp only [List.cons_append, natOf, ih, List.length_cons, Nat.pow_succ, Nat.mul_add, Nat.add_assoc]; congr 2; rw [← Nat.mul_assoc, Nat.mul_comm B64]
theorem natOf_snoc (xs : List Nat) (x : Nat) : natOf (xs ++ [x]) = natOf xs + B64 ^ xs.length * x := by rw [natOf_append, natOf_one]
theorem natOf_take_succ (xs : List Nat) (k : Nat) (h : k < xs.length) : natOf (xs.take (k + 1)) = natOf (xs.take k) + B64 ^ k * xs[k] := by
  rw [List.take_succ_eq_append_getElem h, natOf_snoc, List.length_take, Nat.min_eq_left (by omega)]

theorem Blk.old {w : World} {g : Nat} {t : TypeId} {cs : List Value} (h : Blk w g t cs) (i : Nat) (hi : i < cs.length) : ∃ v, w.cell? ⟨g, i, none⟩ = some v := ⟨_, (h.cell i).trans (List.getElem?_eq_getElem hi)⟩
theorem Blk.wcell {w : World} {g : Nat} {t : TypeId} {cs : List Value} {ds : List Nat} (h : Blk w g t (putw cs ds)) (j : Nat) (hj : j < ds.length) : w.cell? ⟨g, j, none⟩ = some (.int .u64 (ds[j] : Int)) :=
  (h.cell j).trans (putw_get cs ds j hj)

theorem natOf_lt (ds : List Nat) (h : ∀ d ∈ ds, d < B64) : natOf ds < B64 ^ ds.length := by
  induction ds with
  | nil => simp [natOf]
  | cons d ds ih =>
    have h1 := ih (fun x hx => h x (List.mem_cons_of_mem _ hx))
    have h2 := h d (List.mem_cons_self)
    have h3 : B64 * (natOf ds + 1) ≤ B64 * B64 ^ ds.length := Nat.mul_le_mul_left _ h1
    simp only [natOf, List.length_cons, Nat.pow_succ, Nat.mul_comm (B64 ^ ds.length)]
    rw [Nat.mul_add] at h3
    omega
theorem take_getElem {α : Type} {es ws : List α} (h : es = ws.take es.length) (j : Nat) (hj : j < es.length) : ∃ hj', es[j] = ws[j]'hj' := by
  have hl : es.length ≤ ws.length := by
    have := congrArg List.length h
    simp only [List.length_take] at this; omega
  refine ⟨by omega, ?_⟩
  have : es[j]? = ws[j]? := by
    have e : (ws.take es.length)[j]? = ws[j]? := by rw [List.getElem?_take, if_pos hj]
    rw [← e, ← h]
  rw [List.getElem?_eq_getElem hj, List.getElem?_eq_getElem (by omega)] at this
  exact Option.some.inj this

theorem natOf_split (xs : List Nat) (k : Nat) (h : k < xs.length) : natOf xs = natOf (xs.take k) + B64 ^ k * (xs[k] + B64 * natOf (xs.drop (k + 1))) := by
  conv => lhs; rw [← List.take_append_drop k xs, natOf_append, List.drop_eq_getElem_cons h, natOf, List.length_take, Nat.min_eq_left (by omega)]
theorem natOf_lt_at {xs ys : List Nat} (hl : xs.length = ys.length) (k : Nat) (h : k < xs.length) (hd : xs.drop (k + 1) = ys.drop (k + 1)) (hb : ∀ x ∈ xs, x < B64) (hlt : xs[k] < ys[k]'(by omega)) : natOf xs < natOf ys := by
  rw [natOf_split xs k h, natOf_split ys k (by omega), hd]
  have h1 := natOf_lt (xs.take k) (fun x hx => hb x (List.mem_of_mem_take hx))
  rw [List.length_take, Nat.min_eq_left (by omega)] at h1
  have h2 : B64 ^ k * (xs[k] + B64 * natOf (ys.drop (k + 1)) + 1) ≤ B64 ^ k * (ys[k]'(by omega) + B64 * natOf (ys.drop (k + 1))) := Nat.mul_le_mul_left _ (by omega)
  rw [Nat.mul_add, Nat.mul_one] at h2
  omega
theorem natOf_ge {ys : List Nat} (hN : Norm ys) (n : Nat) (hn : ys.length = n + 1) : B64 ^ n ≤ natOf ys := by
  rw [natOf_split ys n (by omega), List.drop_of_length_le (by omega)]
  have : ys[n] ≠ 0 := hN _ (by rw [List.getLast?_eq_getElem?, show ys.length - 1 = n by omega]; exact List.getElem?_eq_getElem (by omega))
  have h1 : B64 ^ n * 1 ≤ B64 ^ n * (ys[n] + B64 * natOf []) := Nat.mul_le_mul_left _ (by omega)
  omega
theorem natOf_lt_len {xs ys : List Nat} (hN : Norm ys) (hb : ∀ x ∈ xs, x < B64) (h : xs.length < ys.length) : natOf xs < natOf ys := by
  have h1 := natOf_lt xs hb
  have h2 := natOf_ge hN (ys.length - 1) (by omega)
  have h3 : B64 ^ xs.length ≤ B64 ^ (ys.length - 1) := Nat.pow_le_pow_right B64_pos (by omega)
  omega
theorem len_le_one {ws : List Nat} (hN : Norm ws) (h : natOf ws < B64) : ws.length ≤ 1 := by
  rcases Nat.lt_or_ge 1 ws.length with h1 | h1
  · have h2 := natOf_ge hN (ws.length - 1) (by omega)
    have h3 : B64 ^ 1 ≤ B64 ^ (ws.length - 1) := Nat.pow_le_pow_right B64_pos (by omega)
    rw [Nat.pow_one] at h3
    omega
  · exact h1
theorem nil_iff {ws : List Nat} (hN : Norm ws) : natOf ws = 0 ↔ ws = [] := by
  constructor
  · intro h
    rcases Nat.eq_zero_or_pos ws.length with h1 | h1
    · exact List.eq_nil_of_length_eq_zero h1
    · have h2 := natOf_ge hN (ws.length - 1) (by omega)
      have h3 : 0 < B64 ^ (ws.length - 1) := Nat.pow_pos B64_pos
      omega
  · rintro rfl; rfl

/-- -1, 0 or 1. -/
def cmpZ (a b : Int) : Int := if a < b then -1 else if b < a then 1 else 0

theorem dr0 (w : World) : ∃ n, w = w.drewN n := ⟨0, rfl⟩
theorem dr1 (w : World) (a : Nat) : ∃ n, w.drewN a = w.drewN n := ⟨a, rfl⟩
theorem dr2 (w : World) (a b : Nat) : ∃ n, (w.drewN a).drewN b = w.drewN n := ⟨_, World.drewN_drewN _ _ _⟩
theorem dr3 (w : World) (a b c : Nat) : ∃ n, ((w.drewN a).drewN b).drewN c = w.drewN n := by simp only [World.drewN_drewN]; exact ⟨_, rfl⟩
theorem dr4 (w : World) (a b c d : Nat) : ∃ n, (((w.drewN a).drewN b).drewN c).drewN d = w.drewN n := by simp only [World.drewN_drewN]; exact ⟨_, rfl⟩

/-- A receiver has been given the value z; only its record, and what is new, has turned. -/
def RetInto (b : Nat) (z : Int) (w : World) (e : Ending) (w' : World) : Prop :=
  e = .returned (.pointer (some ⟨b, 0, none⟩)) ∧ BigAt w' b z ∧ Only b w w'
theorem Only.of_ext {g : Nat} {w w' : World} (h : Ext w w') : Only g w w' := ⟨h.os, h.tape, h.output, h.size, fun i hi _ => h.block i hi⟩
theorem Only.block' {g i : Nat} {w w' : World} {t : TypeId} {cs : List Value} (h : Only g w w') (hb : Blk w i t cs) (hne : i ≠ g) : Blk w' i t cs := (h.block i hb.lt (fun e => hne (by injection e))).trans hb
theorem Words.only {w w' : World} {A : Option Addr} {ws : List Nat} {g : Nat} (h : Words w A ws) (e : Only g w w') (hg : ∀ a, A = some a → ws ≠ [] → a.block ≠ g) : Words w' A ws :=
  ⟨h.1, fun hn => by
    obtain ⟨b, o, hA, ⟨cs, hk⟩, hc⟩ := h.2 hn
    have hb : b ≠ g := hg _ hA hn
    exact ⟨b, o, hA, ⟨cs, e.block' hk hb⟩, fun j hj => e.cell (hc j hj) hb⟩⟩
theorem Words.lt {w : World} {a : Addr} {ws : List Nat} (h : Words w (some a) ws) (hn : ws ≠ []) : a.block < w.heap.size := by
  obtain ⟨b, o, e, hc⟩ := h.get hn
  injection e with e; subst e
  have hl : 0 < ws.length := List.length_pos_iff.2 hn
  exact cell_lt (hc 0 hl)

theorem Ext.undrew {w w' : World} (h : Ext w.drew w') : Ext w w' := ⟨h.os, h.tape, h.output, h.size, h.block⟩
theorem Ext.undrewN {w w' : World} {n : Nat} (h : Ext (w.drewN n) w') : Ext w w' := ⟨h.os, h.tape, h.output, h.size, h.block⟩

theorem set_far {w : World} {p q : Addr} {u v : Value} (h : w.cell? q = some v) (hne : q.block ≠ p.block) : (w.setCell p u).cell? q = some v :=
  (World.cell?_of_block (Below.heap_setCell w p u q.block hne)).trans h

theorem words_ne {w : World} {a : Addr} {ws : List Nat} {b : Nat} {t : TypeId} {cs : List Value} (h : Words w (some a) ws) (hn : ws ≠ []) (hb : Blk w b t cs) (ht : 221 ≠ t := by decide) : a.block ≠ b := by
  obtain ⟨g, o, ha, ⟨cs', hk⟩, _⟩ := h.2 hn
  injection ha with ha; subst ha
  exact hk.ne hb ht
theorem Words.set_ {w : World} {A : Option Addr} {ws : List Nat} {b : Nat} (h : Words w A ws) (hb : ∀ a, A = some a → ws ≠ [] → a.block ≠ b) (i : Nat) (u : Value) : Words (w.setCell ⟨b, i, none⟩ u) A ws :=
  h.only ((Only.refl b w).set_ i u) hb
theorem bigVal_congr {neg : Bool} {ws ws' : List Nat} (h : natOf ws' = natOf ws) : bigVal neg ws = bigVal neg ws' := by unfold bigVal; rw [h]
theorem nil_congr {ws ws' : List Nat} (hN : Norm ws) (_ : Norm ws') (h : natOf ws' = natOf ws) (e : ws' = []) : ws = [] := (nil_iff hN).1 (by rw [← h, e]; rfl)

/-- A big integer stays while a block of another kind is written. -/
theorem BigAt.only {w w' : World} {b : Nat} {z : Int} {g : Nat} {t : TypeId} {cs : List Value} (h : BigAt w b z) (e : Only g w w') (hb : Blk w g t cs) (h1 : 221 ≠ t := by decide) (h2 : 173 ≠ t := by decide) : BigAt w' b z := by
  obtain ⟨A, c, ws, neg, hk, hw, hr⟩ := h
  exact ⟨A, c, ws, neg, e.block' hk (hk.ne hb h2), hw.only e (by intro a ha hn; subst ha; exact words_ne hw hn hb h1), hr⟩
theorem BigAt.set_ {w : World} {b : Nat} {z : Int} {g : Nat} {t : TypeId} {cs : List Value} (h : BigAt w b z) (hb : Blk w g t cs) (i : Nat) (u : Value) (h1 : 221 ≠ t := by decide) (h2 : 173 ≠ t := by decide) : BigAt (w.setCell ⟨g, i, none⟩ u) b z :=
  h.only ((Only.refl g w).set_ i u) hb h1 h2
/-- A receiver that was new, given a value: what was there stands. -/
theorem ext_of_only {a w w' : World} {g : Nat} (e : Ext a w) (h : Only g w w') (hg : a.heap.size ≤ g) : Ext a w' := Only.ext e h hg

end Go.Proofs.YtfafiahefjimdaaGreatDoor

namespace Go.Proofs.YtfafiahefjimdaaGreatDoor
open Go Go.RowKit

/-- A call returned a pointer to a big integer; nothing that was there has turned. -/
def RetBig (z : Int) (w : World) (e : Ending) (w' : World) : Prop := ∃ v, e = .returned v ∧ IsBig w' v z ∧ Ext w w'

theorem u64_neg (x : Int) (h0 : x < 0) (h1 : -9223372036854775807 ≤ x) : IntKind.u64.wrap (-IntKind.u64.wrap x) = -x := by
  simp only [IntKind.wrap_u64]; omega

set_option maxRecDepth 100000 in
theorem newInt_zero (w : World) : Calls Tryz.prog 119 #[.int .i64 0] w (RetBig 0 w) := by
  go_enter Tryz.func119, Tryz.ntmps119
  go_wp2
  go_ret
  exact ⟨_, rfl, isBig_zero _ _ _, Ext.alloc' _ _⟩
set_option maxRecDepth 100000 in
theorem newInt_pos (x : Nat) (w : World) (h0 : 0 < x) (h1 : x ≤ 9223372036854775807) : Calls Tryz.prog 119 #[.int .i64 (x : Int)] w (RetBig x w) := by
  have e : ((x : Int) == 0) = false := by simp; omega
  have e' : decide ((x : Int) < 0) = false := by simp
  have H := isBig_one w x false (by unfold B64; omega) (by omega)
  go_enter Tryz.func119, Tryz.ntmps119
  go_wp2
  go_ret
  exact ⟨_, rfl, by simpa [bigVal, natOf_one] using H, (Ext.alloc' _ _).trans' (Ext.alloc' _ _)⟩
set_option maxRecDepth 100000 in
theorem newInt_neg (x : Nat) (w : World) (h0 : 0 < x) (h1 : x ≤ 9223372036854775807) : Calls Tryz.prog 119 #[.int .i64 (-(x : Int))] w (RetBig (-(x : Int)) w) := by
  have e : (-(x : Int) == 0) = false := by simp; omega
  have e' : decide (-(x : Int) < 0) = true := by simp; omega
  have E := Lib.hid (u64_neg (-(x : Int)) (by omega) (by omega))
  have H := Lib.hid (isBig_one w x true (by unfold B64; omega) (by omega))
  go_enter Tryz.func119, Tryz.ntmps119
  go_wp2
  go_ret
  refine ⟨_, rfl, ?_, (Ext.alloc' _ _).trans' (Ext.alloc' _ _)⟩
  rw [E.out, Int.neg_neg]
  simpa [bigVal, natOf_one] using H.out
theorem newInt (x : Int) (w : World) (h0 : -9223372036854775807 ≤ x) (h1 : x ≤ 9223372036854775807) : Calls Tryz.prog 119 #[.int .i64 x] w (RetBig x w) := by
  rcases Int.lt_trichotomy x 0 with h | rfl | h
  · obtain ⟨n, rfl⟩ : ∃ n : Nat, x = -(n : Int) := ⟨(-x).toNat, by omega⟩
    exact newInt_neg n w (by omega) (by omega)
  · exact newInt_zero w
  · obtain ⟨n, rfl⟩ : ∃ n : Nat, x = n := ⟨x.toNat, by omega⟩
    exact newInt_pos n w (by omega) (by omega)
end Go.Proofs.YtfafiahefjimdaaGreatDoor

namespace Go.Proofs.YtfafiahefjimdaaGreatDoor
open Go Go.RowKit

theorem add64_run (x y c : Nat) (hc : c ≤ 1) (w : World) : (callFunc 127 #[.int .u64 x, .int .u64 y, .int .u64 c]).run Tryz.prog w =
      .ok (.value (.tuple #[.int .u64 (((x + y + c) % B64 : Nat) : Int), .int .u64 (((x + y + c) / B64 : Nat) : Int)])) w := by
  rw [run_callFunc_extern Tryz.func127 (by kernel_rfl) (by kernel_rfl) (by kernel_rfl) (e := add64Entry) (by kernel_rfl), run_add64 x y c (by omega) (by omega) (by omega) (by omega)]
  simp only [Result.andThen]
  congr 5 <;> (unfold B64; omega)

def sub64E : Array Value → Sem Value := fun args => do
  let (x, y, b) ← Extern.MathBitsCarry.three "Sub64" args
  pure (Extern.MathBitsCarry.pair ((x + Extern.MathBitsCarry.m64 - y - b) % Extern.MathBitsCarry.m64) (if x < y + b then 1 else 0))

theorem sub64E_run {P : Program} (x y b : Nat) (hb : b ≤ 1) (w : World) :
    (sub64E #[.int .u64 x, .int .u64 y, .int .u64 b]).run P w =
      .ok (.tuple #[.int .u64 (((x + B64 - y - b) % B64 : Nat) : Int), .int .u64 ((if x < y + b then 1 else 0 : Nat) : Int)]) w := by
  have : b = 0 ∨ b = 1 := by omega
  rcases this with rfl | rfl <;> rfl

theorem sub64_run (x y b : Nat) (hb : b ≤ 1) (w : World) : (callFunc 181 #[.int .u64 x, .int .u64 y, .int .u64 b]).run Tryz.prog w =
      .ok (.value (.tuple #[.int .u64 (((x + B64 - y - b) % B64 : Nat) : Int), .int .u64 ((if x < y + b then 1 else 0 : Nat) : Int)])) w := by
  rw [run_callFunc_extern Tryz.func181 (by kernel_rfl) (by kernel_rfl) (by kernel_rfl) (e := sub64E) (by kernel_rfl), sub64E_run x y b hb]
  rfl

set_option maxRecDepth 100000 in
theorem bitsAdd (x y c : Nat) (hc : c ≤ 1) (w : World) : Calls Tryz.prog 273 #[.int .u64 x, .int .u64 y, .int .u64 c] w fun e w' =>
    e = .returned (.tuple #[.int .u64 (((x + y + c) % B64 : Nat) : Int), .int .u64 (((x + y + c) / B64 : Nat) : Int)]) ∧ w' = w := by
  have H := fun w => add64_run x y c hc w
  go_enter Tryz.func273, Tryz.ntmps273
  go_wp2
  go_ret2
  exact ⟨rfl, rfl⟩
set_option maxRecDepth 100000 in
theorem bitsSub (x y c : Nat) (hc : c ≤ 1) (w : World) : Calls Tryz.prog 275 #[.int .u64 x, .int .u64 y, .int .u64 c] w fun e w' =>
    e = .returned (.tuple #[.int .u64 (((x + B64 - y - c) % B64 : Nat) : Int), .int .u64 ((if x < y + c then 1 else 0 : Nat) : Int)]) ∧ w' = w := by
  obtain ⟨d, hd⟩ : ∃ d, d = (x + B64 - y - c) % B64 := ⟨_, rfl⟩
  obtain ⟨b, hb⟩ : ∃ b : Nat, b = (if x < y + c then 1 else 0) := ⟨_, rfl⟩
  have H := fun w => sub64_run x y c hc w
  rw [← hd, ← hb]
  rw [← hd, ← hb] at H
  have hd' := Lib.hid hd; have hb' := Lib.hid hb; clear hd hb
  go_enter Tryz.func275, Tryz.ntmps275
  go_wp2
  go_ret2
  exact ⟨rfl, rfl⟩
end Go.Proofs.YtfafiahefjimdaaGreatDoor

namespace Go.Proofs.YtfafiahefjimdaaGreatDoor
open Go Go.RowKit

/-- What a vector operation leaves: the first words of block g are ds, with a carry c; nothing else has turned. -/
def RetVec (g : Nat) (E : TypeId) (cs : List Value) (n : Nat) (R : List Nat → Nat → Prop) (w : World) (e : Ending) (w' : World) : Prop :=
  ∃ ds c, e = .returned (wv c) ∧ c ≤ 1 ∧ ds.length = n ∧ (∀ d ∈ ds, d < B64) ∧ R ds c ∧ Blk w' g E (putw cs ds) ∧ Only g w w'

theorem addStep (P Q D x y c k : Nat) (h : D + c * B64 ^ k = P + Q) : D + B64 ^ k * ((x + y + c) % B64) + (x + y + c) / B64 * B64 ^ (k + 1) = P + B64 ^ k * x + (Q + B64 ^ k * y) := by
  have e : B64 * ((x + y + c) / B64) + (x + y + c) % B64 = x + y + c := Nat.div_add_mod _ _
  have e2 : (x + y + c) / B64 * B64 ^ (k + 1) = B64 ^ k * (B64 * ((x + y + c) / B64)) := by rw [Nat.pow_succ]; ac_rfl
  have e3 : B64 ^ k * (B64 * ((x + y + c) / B64)) + B64 ^ k * ((x + y + c) % B64) = B64 ^ k * (x + y + c) := by rw [← Nat.mul_add, e]
  have e4 : B64 ^ k * (x + y + c) = B64 ^ k * x + B64 ^ k * y + c * B64 ^ k := by rw [Nat.mul_add, Nat.mul_add, Nat.mul_comm c]
  omega
theorem carry_le (x y c : Nat) (hx : x < B64) (hy : y < B64) (hc : c ≤ 1) : (x + y + c) / B64 ≤ 1 := by
  unfold B64 at *; omega

set_option maxRecDepth 100000 in
theorem addVVg (g cz bx ox cx by_ oy cy : Nat) (E : TypeId) (cs : List Value) (xs ys : List Nat) (n : Nat) (w : World) (hn : n ≤ 1000000)
    (hb : Blk w g E cs) (hcs : n ≤ cs.length) (hxl : xs.length = n) (hyl : ys.length = n) (hxb : ∀ x ∈ xs, x < B64) (hyb : ∀ y ∈ ys, y < B64) (hbx : bx ≠ g) (hby : by_ ≠ g)
    (hx : ∀ j (h : j < xs.length), w.cell? ⟨bx, ox + j, none⟩ = some (.int .u64 (xs[j] : Int))) (hy : ∀ j (h : j < ys.length), w.cell? ⟨by_, oy + j, none⟩ = some (.int .u64 (ys[j] : Int))) :
    Calls Tryz.prog 272 #[.slice (some ⟨g, 0, none⟩) n cz, .slice (some ⟨bx, ox, none⟩) n cx, .slice (some ⟨by_, oy, none⟩) n cy] w
      (RetVec g E cs n (fun ds c => natOf ds + c * B64 ^ n = natOf xs + natOf ys) w) := by
  have HX := Lib.hid hx; have HY := Lib.hid hy; have HB := Lib.hid hb; have HXL := Lib.hid hxl; have HYL := Lib.hid hyl; have HXB := Lib.hid hxb; have HYB := Lib.hid hyb
  clear hx hy hb hxl hyl hxb hyb
  go_enter Tryz.func272, Tryz.ntmps272
  go_wp2
  go_loopw [6, 25] (fun c i wr => ∃ (k : Nat) (ds : List Nat) (cc : Nat), k ≤ n ∧ i = .int .i64 k ∧ c = .int .u64 (cc : Int) ∧ cc ≤ 1 ∧ ds.length = k ∧ (∀ d ∈ ds, d < B64) ∧ natOf ds + cc * B64 ^ k = natOf (xs.take k) + natOf (ys.take k) ∧ Blk wr g E (putw cs ds) ∧ Only g w wr)
    (fun _ i _ => n - (intOf i).toNat)
  case atStart => exact ⟨0, [], 0, Nat.zero_le _, rfl, rfl, Nat.zero_le _, rfl, by simp, by simp [natOf], HB.out, Only.refl _ _⟩
  case round =>
    obtain ⟨k, ds, cc, hk, rfl, rfl, hcc, hdl, hdb, hsum, hblk, honly⟩ := hrel
    have HD := Lib.hid hdl; have HDB := Lib.hid hdb; have HS := Lib.hid hsum; have HBK := Lib.hid hblk; have HO := Lib.hid honly
    clear hdl hdb hsum hblk honly
    by_cases hlt : k < n
    · have hkx : k < xs.length := by rw [HXL.out]; exact hlt
      have hky : k < ys.length := by rw [HYL.out]; exact hlt
      obtain ⟨xk, hxk⟩ : ∃ xk, xk = xs[k] := ⟨_, rfl⟩
      obtain ⟨yk, hyk⟩ : ∃ yk, yk = ys[k] := ⟨_, rfl⟩
      have cx' : wr.cell? ⟨bx, ox + k, none⟩ = some (.int .u64 (xk : Int)) := by rw [hxk]; exact HO.out.cell (HX.out k hkx) hbx
      have cy' : wr.cell? ⟨by_, oy + k, none⟩ = some (.int .u64 (yk : Int)) := by rw [hyk]; exact HO.out.cell (HY.out k hky) hby
      have HXK := Lib.hid hxk; have HYK := Lib.hid hyk
      clear hxk hyk
      obtain ⟨old, hold⟩ : ∃ old, wr.cell? ⟨g, k, none⟩ = some old := ⟨_, (HBK.out.cell k).trans (List.getElem?_eq_getElem (by rw [putw_length _ _ (by rw [HD.out]; omega)]; omega))⟩
      have hfz : wr.frozen? ⟨g, k, none⟩ = false := HBK.out.frozen k
      go_wp2
      go_quiet ((go_at_call 273; exact Calls.quiet_of_same (bitsAdd _ _ _ hcc _)))
      go_wp2
      go_roundw
      case rel =>
        refine ⟨k + 1, ds ++ [(xk + yk + cc) % B64], (xk + yk + cc) / B64, by omega, by go_num, rfl, ?_, by simp [HD.out], ?_, ?_, ?_, ?_⟩
        · exact carry_le _ _ _ (by rw [HXK.out]; exact HXB.out _ (List.getElem_mem _)) (by rw [HYK.out]; exact HYB.out _ (List.getElem_mem _)) hcc
        · intro d hd
          rcases List.mem_append.1 hd with h | h
          · exact HDB.out d h
          · simp at h; subst h; exact Nat.mod_lt _ B64_pos
        · rw [natOf_snoc, HD.out, natOf_take_succ xs _ hkx, natOf_take_succ ys _ hky, ← HXK.out, ← HYK.out]
          exact addStep _ _ _ _ _ _ _ HS.out
        · have := (HBK.out.drewN nq).set_ k (wv ((xk + yk + cc) % B64))
          rw [← putw_set _ _ _ (by rw [HD.out]; omega), HD.out]
          exact this
        · exact (HO.out.drewN nq).set_ _ _
      case measure => simp [intOf]; omega
    · obtain rfl : k = n := by omega
      go_wp2
      go_ret
      exact ⟨ds, cc, rfl, hcc, HD.out, HDB.out, by have h := HS.out; rwa [List.take_of_length_le (l := xs) (by rw [HXL.out]; exact Nat.le_refl _), List.take_of_length_le (l := ys) (by rw [HYL.out]; exact Nat.le_refl _)] at h, HBK.out, HO.out⟩
theorem subStep (P Q D x y c k : Nat) (hc : c ≤ 1) (hx : x < B64) (hy : y < B64) (h : D + Q = P + c * B64 ^ k) :
    D + B64 ^ k * ((x + B64 - y - c) % B64) + (Q + B64 ^ k * y) = P + B64 ^ k * x + (if x < y + c then 1 else 0) * B64 ^ (k + 1) := by
  have e : (x + B64 - y - c) % B64 + y + c = x + (if x < y + c then 1 else 0) * B64 := by unfold B64 at *; split <;> omega
  have e2 : B64 ^ k * ((x + B64 - y - c) % B64) + B64 ^ k * y + B64 ^ k * c = B64 ^ k * x + B64 ^ k * ((if x < y + c then 1 else 0) * B64) := by rw [← Nat.mul_add, ← Nat.mul_add, e, Nat.mul_add]
  have e3 : (if x < y + c then 1 else 0) * B64 ^ (k + 1) = B64 ^ k * ((if x < y + c then 1 else 0) * B64) := by rw [Nat.pow_succ]; ac_rfl
  have e4 : c * B64 ^ k = B64 ^ k * c := Nat.mul_comm _ _
  omega

set_option maxRecDepth 100000 in
theorem subVVg (g cz bx ox cx by_ oy cy : Nat) (E : TypeId) (cs : List Value) (xs ys : List Nat) (n : Nat) (w : World) (hn : n ≤ 1000000)
    (hb : Blk w g E cs) (hcs : n ≤ cs.length) (hxl : xs.length = n) (hyl : ys.length = n) (hxb : ∀ x ∈ xs, x < B64) (hyb : ∀ y ∈ ys, y < B64) (hbx : bx ≠ g) (hby : by_ ≠ g)
    (hx : ∀ j (h : j < xs.length), w.cell? ⟨bx, ox + j, none⟩ = some (.int .u64 (xs[j] : Int))) (hy : ∀ j (h : j < ys.length), w.cell? ⟨by_, oy + j, none⟩ = some (.int .u64 (ys[j] : Int))) :
    Calls Tryz.prog 274 #[.slice (some ⟨g, 0, none⟩) n cz, .slice (some ⟨bx, ox, none⟩) n cx, .slice (some ⟨by_, oy, none⟩) n cy] w
      (RetVec g E cs n (fun ds c => natOf ds + natOf ys = natOf xs + c * B64 ^ n) w) := by
  have HX := Lib.hid hx; have HY := Lib.hid hy; have HB := Lib.hid hb; have HXL := Lib.hid hxl; have HYL := Lib.hid hyl; have HXB := Lib.hid hxb; have HYB := Lib.hid hyb
  clear hx hy hb hxl hyl hxb hyb
  go_enter Tryz.func274, Tryz.ntmps274
  go_wp2
  go_loopw [6, 25] (fun c i wr => ∃ (k : Nat) (ds : List Nat) (cc : Nat), k ≤ n ∧ i = .int .i64 k ∧ c = .int .u64 (cc : Int) ∧ cc ≤ 1 ∧ ds.length = k ∧ (∀ d ∈ ds, d < B64) ∧ natOf ds + natOf (ys.take k) = natOf (xs.take k) + cc * B64 ^ k ∧ Blk wr g E (putw cs ds) ∧ Only g w wr)
    (fun _ i _ => n - (intOf i).toNat)
  case atStart => exact ⟨0, [], 0, Nat.zero_le _, rfl, rfl, Nat.zero_le _, rfl, by simp, by simp [natOf], HB.out, Only.refl _ _⟩
  case round =>
    obtain ⟨k, ds, cc, hk, rfl, rfl, hcc, hdl, hdb, hsum, hblk, honly⟩ := hrel
    have HD := Lib.hid hdl; have HDB := Lib.hid hdb; have HS := Lib.hid hsum; have HBK := Lib.hid hblk; have HO := Lib.hid honly
    clear hdl hdb hsum hblk honly
    by_cases hlt : k < n
    · have hkx : k < xs.length := by rw [HXL.out]; exact hlt
      have hky : k < ys.length := by rw [HYL.out]; exact hlt
      obtain ⟨xk, hxk⟩ : ∃ xk, xk = xs[k] := ⟨_, rfl⟩
      obtain ⟨yk, hyk⟩ : ∃ yk, yk = ys[k] := ⟨_, rfl⟩
      have cx' : wr.cell? ⟨bx, ox + k, none⟩ = some (.int .u64 (xk : Int)) := by rw [hxk]; exact HO.out.cell (HX.out k hkx) hbx
      have cy' : wr.cell? ⟨by_, oy + k, none⟩ = some (.int .u64 (yk : Int)) := by rw [hyk]; exact HO.out.cell (HY.out k hky) hby
      have HXK := Lib.hid hxk; have HYK := Lib.hid hyk
      clear hxk hyk
      obtain ⟨old, hold⟩ : ∃ old, wr.cell? ⟨g, k, none⟩ = some old := ⟨_, (HBK.out.cell k).trans (List.getElem?_eq_getElem (by rw [putw_length _ _ (by rw [HD.out]; omega)]; omega))⟩
      have hfz : wr.frozen? ⟨g, k, none⟩ = false := HBK.out.frozen k
      go_wp2
      go_quiet ((go_at_call 275; exact Calls.quiet_of_same (bitsSub _ _ _ hcc _)))
      go_wp2
      go_roundw
      case rel =>
        refine ⟨k + 1, ds ++ [(xk + B64 - yk - cc) % B64], (if xk < yk + cc then 1 else 0), by omega, by go_num, rfl, ?_, by simp [HD.out], ?_, ?_, ?_, ?_⟩
        · split <;> omega
        · intro d hd
          rcases List.mem_append.1 hd with h | h
          · exact HDB.out d h
          · simp at h; subst h; exact Nat.mod_lt _ B64_pos
        · rw [natOf_snoc, HD.out, natOf_take_succ xs _ hkx, natOf_take_succ ys _ hky, ← HXK.out, ← HYK.out]
          exact subStep _ _ _ _ _ _ _ hcc (by rw [HXK.out]; exact HXB.out _ (List.getElem_mem _)) (by rw [HYK.out]; exact HYB.out _ (List.getElem_mem _)) HS.out
        · have := (HBK.out.drewN nq).set_ k (wv ((xk + B64 - yk - cc) % B64))
          rw [← putw_set _ _ _ (by rw [HD.out]; omega), HD.out]
          exact this
        · exact (HO.out.drewN nq).set_ _ _
      case measure => simp [intOf]; omega
    · obtain rfl : k = n := by omega
      go_wp2
      go_ret
      exact ⟨ds, cc, rfl, hcc, HD.out, HDB.out, by have h := HS.out; rwa [List.take_of_length_le (l := xs) (by rw [HXL.out]; exact Nat.le_refl _), List.take_of_length_le (l := ys) (by rw [HYL.out]; exact Nat.le_refl _)] at h, HBK.out, HO.out⟩
set_option maxRecDepth 100000 in
theorem addVV (g cz bx ox cx by_ oy cy : Nat) (E : TypeId) (cs : List Value) (xs ys : List Nat) (n : Nat) (w : World) (hn : n ≤ 1000000)
    (hb : Blk w g E cs) (hcs : n ≤ cs.length) (hxl : xs.length = n) (hyl : ys.length = n) (hxb : ∀ x ∈ xs, x < B64) (hyb : ∀ y ∈ ys, y < B64) (hbx : bx ≠ g) (hby : by_ ≠ g)
    (hx : ∀ j (h : j < xs.length), w.cell? ⟨bx, ox + j, none⟩ = some (.int .u64 (xs[j] : Int))) (hy : ∀ j (h : j < ys.length), w.cell? ⟨by_, oy + j, none⟩ = some (.int .u64 (ys[j] : Int))) :
    Calls Tryz.prog 219 #[.slice (some ⟨g, 0, none⟩) n cz, .slice (some ⟨bx, ox, none⟩) n cx, .slice (some ⟨by_, oy, none⟩) n cy] w
      (RetVec g E cs n (fun ds c => natOf ds + c * B64 ^ n = natOf xs + natOf ys) w) := by
  have H := Lib.hid (addVVg g cz bx ox cx by_ oy cy E cs xs ys n w hn hb hcs hxl hyl hxb hyb hbx hby hx hy)
  clear hb hcs hxl hyl hxb hyb hbx hby hx hy
  go_enter Tryz.func219, Tryz.ntmps219
  go_wp2_with (go_at_call 272; refine H.out.mono ?_; rintro e w' ⟨ds, c, rfl, hr⟩)
  go_ret
  exact ⟨ds, c, rfl, hr⟩
set_option maxRecDepth 100000 in
theorem subVV (g cz bx ox cx by_ oy cy : Nat) (E : TypeId) (cs : List Value) (xs ys : List Nat) (n : Nat) (w : World) (hn : n ≤ 1000000)
    (hb : Blk w g E cs) (hcs : n ≤ cs.length) (hxl : xs.length = n) (hyl : ys.length = n) (hxb : ∀ x ∈ xs, x < B64) (hyb : ∀ y ∈ ys, y < B64) (hbx : bx ≠ g) (hby : by_ ≠ g)
    (hx : ∀ j (h : j < xs.length), w.cell? ⟨bx, ox + j, none⟩ = some (.int .u64 (xs[j] : Int))) (hy : ∀ j (h : j < ys.length), w.cell? ⟨by_, oy + j, none⟩ = some (.int .u64 (ys[j] : Int))) :
    Calls Tryz.prog 222 #[.slice (some ⟨g, 0, none⟩) n cz, .slice (some ⟨bx, ox, none⟩) n cx, .slice (some ⟨by_, oy, none⟩) n cy] w
      (RetVec g E cs n (fun ds c => natOf ds + natOf ys = natOf xs + c * B64 ^ n) w) := by
  have H := Lib.hid (subVVg g cz bx ox cx by_ oy cy E cs xs ys n w hn hb hcs hxl hyl hxb hyb hbx hby hx hy)
  clear hb hcs hxl hyl hxb hyb hbx hby hx hy
  go_enter Tryz.func222, Tryz.ntmps222
  go_wp2_with (go_at_call 274; refine H.out.mono ?_; rintro e w' ⟨ds, c, rfl, hr⟩)
  go_ret
  exact ⟨ds, c, rfl, hr⟩
end Go.Proofs.YtfafiahefjimdaaGreatDoor

namespace Go.Proofs.YtfafiahefjimdaaGreatDoor
open Go Go.RowKit

theorem infoWord : (Tryz.prog.info? 221).map (fun i => (i.zero, i.size, i.bytes)) = some (some (.int .u64 0), 1, 8) := by kernel_rfl

theorem blkMake (w : World) (c : Nat) (v : Value) (E : TypeId) : Blk (w.alloc (.cells (Array.replicate c v) E)) w.heap.size E (List.replicate c v) := by
  rw [← List.toArray_replicate]; exact Blk.new w E _
def RetMake (n : Nat) (w : World) (e : Ending) (w' : World) : Prop :=
  ∃ c, n ≤ c ∧ e = .returned (.slice (some ⟨w.heap.size, 0, none⟩) n c) ∧ w' = w.alloc (.cells (Array.replicate c (.int .u64 0)) 221)

set_option maxRecDepth 100000 in
theorem natMake (n : Nat) (w : World) (h1 : 1 ≤ n) (h2 : n ≤ 1000000) : Calls Tryz.prog 218 #[.slice none 0 0, .int .i64 n] w (RetMake n w) := by
  obtain ⟨i0, hi, hz0, hz1, hz2⟩ := info_parts infoWord
  by_cases e : n = 1
  · subst e
    have hmk : ∀ w, (Instr.makeSlice 171 (.int .i64 1) (.int .i64 1)).run Tryz.prog w = .ok (.slice (some ⟨w.heap.size, 0, none⟩) 1 1) (w.alloc (.cells #[.int .u64 0] 221)) := fun _ => by kernel_rfl
    go_enter Tryz.func218, Tryz.ntmps218
    go_wp2
    go_ret
    exact ⟨1, Nat.le_refl _, rfl, rfl⟩
  · have e1 : ((n : Int) == 1) = false := by simp; omega
    have hmk : ∀ W : World, (Instr.makeSlice 171 (.int .i64 (n : Int)) (.int .i64 ((n : Int) + 4))).run Tryz.prog W = .ok (.slice (some ⟨W.heap.size, 0, none⟩) n (n + 4)) (W.alloc (.cells (Array.replicate (n + 4) (.int .u64 0)) 221)) := fun W => by
      rw [run_make (P := Tryz.prog) W 171 221 i0 (.int .u64 0) Tryz.underlying171 hi hz0 .i64 .i64 (n : Int) ((n : Int) + 4) (by omega) (by omega) (by rw [hz2]; omega) (by omega), hz1]
      have e2 : ((n : Int) + 4).toNat * 1 = n + 4 := by omega
      have e3 : madeCells (Value.cells (.int .u64 0)) (n + 4) = (List.replicate (n + 4) (Value.int .u64 0)).toArray := by
        rw [← toList_madeCells_one]; rfl
      rw [e2, e3, List.toArray_replicate]; congr 2
    go_enter Tryz.func218, Tryz.ntmps218
    go_wp2
    go_ret
    exact ⟨n + 4, by omega, rfl, rfl⟩
theorem natMake0 (w : World) : Calls Tryz.prog 218 #[.slice none 0 0, .int .i64 0] w fun e w' => e = .returned (.slice none 0 0) ∧ w' = w := by
  go_enter Tryz.func218, Tryz.ntmps218
  go_wp2
  go_ret
  exact ⟨rfl, rfl⟩

/-- What norm hands back. -/
def RetNorm (A : Option Addr) (c : Nat) (ws : List Nat) (w : World) (e : Ending) (w' : World) : Prop :=
  ∃ ds, e = .returned (.slice A ds.length c) ∧ w' = w ∧ ds = ws.take ds.length ∧ Norm ds ∧ natOf ds = natOf ws

set_option maxRecDepth 100000 in
theorem natNorm (g o c : Nat) (ws : List Nat) (n : Nat) (w : World) (hl : ws.length = n) (hn : n ≤ 1000000) (hc : n ≤ c)
    (hx : ∀ j (h : j < ws.length), w.cell? ⟨g, o + j, none⟩ = some (.int .u64 (ws[j] : Int))) :
    Calls Tryz.prog 221 #[.slice (some ⟨g, o, none⟩) n c] w (RetNorm (some ⟨g, o, none⟩) c ws w) := by
  have HX := Lib.hid hx; have HL := Lib.hid hl; clear hx hl
  go_enter Tryz.func221, Tryz.ntmps221
  go_wp2
  go_loop [3] (fun i => ∃ k : Nat, k ≤ n ∧ i = .int .i64 k ∧ natOf (ws.take k) = natOf ws) (fun i => (intOf i).toNat)
  case atStart => exact ⟨n, Nat.le_refl _, rfl, by rw [List.take_of_length_le (by rw [HL.out]; exact Nat.le_refl _)]⟩
  case round =>
    obtain ⟨k, hk, rfl, hv⟩ := hrel
    have HV := Lib.hid hv; clear hv
    rcases Nat.eq_zero_or_pos k with rfl | hpos
    · go_wp2
      go_ret
      exact ⟨[], rfl, rfl, by simp, by intro y hy; simp at hy, by simpa using HV.out⟩
    · obtain ⟨m, rfl⟩ : ∃ m, k = m + 1 := ⟨k - 1, by omega⟩
      have hm : m < ws.length := by rw [HL.out]; omega
      obtain ⟨x, hxm⟩ : ∃ x, x = ws[m] := ⟨_, rfl⟩
      have cx : w.cell? ⟨g, o + m, none⟩ = some (.int .u64 (x : Int)) := by rw [hxm]; exact HX.out m hm
      have HXM := Lib.hid hxm; clear hxm
      by_cases h0 : x = 0
      · go_wp2
        go_round
        case rel => exact ⟨m, by omega, by go_num, by rw [← HV.out, natOf_take_succ _ _ hm, ← HXM.out, h0]; simp⟩
        case measure => simp [intOf]
      · have e0 : ((x : Int) == 0) = false := by simp; omega
        go_wp2
        go_ret
        refine ⟨ws.take (m + 1), ?_, rfl, ?_, ?_, HV.out⟩
        · rw [List.length_take, Nat.min_eq_left (by omega)]; rfl
        · rw [List.length_take, Nat.min_eq_left (by omega)]
        · intro y hy
          rw [List.take_succ_eq_append_getElem hm, List.getLast?_append] at hy
          simp at hy
          rw [← hy, ← HXM.out]; exact h0

/-- What a function hands back that makes a number. -/
def RetNat (N : Nat) (w : World) (e : Ending) (w' : World) : Prop :=
  ∃ A c ws, e = .returned (.slice A ws.length c) ∧ ws.length ≤ c ∧ Words w' A ws ∧ Norm ws ∧ natOf ws = N ∧ Ext w w'

set_option maxRecDepth 100000 in
theorem natSet (A : Option Addr) (c : Nat) (ws : List Nat) (w : World) (hw : Words w A ws) (hn : ws.length ≤ 1000000) (hN : Norm ws) :
    Calls Tryz.prog 217 #[.slice none 0 0, .slice A ws.length c] w (RetNat (natOf ws) w) := by
  obtain ⟨n, hl⟩ : ∃ n, ws.length = n := ⟨_, rfl⟩
  rw [hl]
  rw [hl] at hn
  have HL := Lib.hid hl; have HW := Lib.hid hw; clear hl hw
  rcases Nat.eq_zero_or_pos n with h0 | h0
  · subst h0
    have HW0 : ws = [] := List.eq_nil_of_length_eq_zero HL.out
    go_enter Tryz.func217, Tryz.ntmps217
    go_wp2_with (first | (go_at_call 218; refine (natMake0 _).mono ?_; rintro e w' ⟨rfl, rfl⟩) | (with_reducible refine wpList_copy_nothing rfl (.tmp 9) (.tmp 10) 171 171 rfl 221 Tryz.underlying171 (by kernel_rfl) _ _ _ _ _ _ rfl rfl rfl ?_))
    go_ret
    exact ⟨none, 0, [], rfl, Nat.le_refl _, ⟨by simp, fun h => absurd rfl h⟩, by intro y hy; simp at hy, by rw [HW0], Ext.refl _⟩
  · go_enter Tryz.func217, Tryz.ntmps217
    obtain ⟨gx, ox, rfl, hcell⟩ := HW.out.get (by intro h; rw [h] at HL; exact absurd HL.out (by simp; omega))
    have HC := Lib.hid hcell; clear hcell
    go_wp2_with (first | (go_at_call 218; refine (natMake n _ h0 hn).mono ?_; rintro e w' ⟨c', hc', rfl, rfl⟩) | (with_reducible refine wpList_copy_own rfl (.tmp 9) (.tmp 10) 171 171 rfl 221 Tryz.underlying171 (by kernel_rfl) w.heap.size 0 n c' ⟨gx, ox, none⟩ n c rfl rfl _ 221 (heap_alloc_new _ _) (ws.map wv) (by rw [List.length_map, HL.out]; exact (Nat.min_self n).symm) ?src ?fit ?one ?_))
    case fit => rw [List.length_map, HL.out]; simp; omega
    case one => intro v hv; obtain ⟨x, _, rfl⟩ := List.mem_map.1 hv; rfl
    case src =>
      intro j v hv
      rw [List.getElem?_map] at hv
      obtain ⟨x, hx, rfl⟩ := Option.map_eq_some_iff.1 hv
      obtain ⟨hj, rfl⟩ := List.getElem?_eq_some_iff.1 hx
      have := HC.out j hj
      refine cell_old _ ?_
      rcases Nat.eq_zero_or_pos j with rfl | hp
      · simpa [Addr.add, wv] using this
      · simpa [Addr.add, wv, show j ≠ 0 by omega] using this
    · go_wp2
      go_ret
      have hb : Blk ((w.alloc (.cells (Array.replicate c' (.int .u64 0)) 221)).setRow w.heap.size (putw (List.replicate c' (.int .u64 0)) ws).toArray) w.heap.size 221 (putw (List.replicate c' (.int .u64 0)) ws) :=
        setRow_heap (w.alloc (.cells (Array.replicate c' (.int .u64 0)) 221)) w.heap.size _ (putw (List.replicate c' (.int .u64 0)) ws).toArray _ _ (heap_alloc_new _ _)
      have hb' := hb
      simp only [putw, List.drop_replicate] at hb'
      refine ⟨some ⟨w.heap.size, 0, none⟩, c', ws, by rw [HL.out]; rfl, by rw [HL.out]; exact hc', ⟨HW.out.1, fun _ => ⟨w.heap.size, 0, rfl, ⟨_, hb'⟩, fun j hj => ?_⟩⟩, hN, rfl, ?_⟩
      · have := (hb.cell j).trans (putw_get _ _ j hj)
        simpa [putw, wv] using this
      · exact below_setRow (Ext.alloc' _ _) (Nat.le_refl _) _
end Go.Proofs.YtfafiahefjimdaaGreatDoor

namespace Go.Proofs.YtfafiahefjimdaaGreatDoor
open Go Go.RowKit

theorem words_none (w : World) : Words w none [] := ⟨by simp, fun h => absurd rfl h⟩
theorem norm_nil : Norm [] := by intro y hy; simp at hy

theorem sumCells {g n : Nat} {w1 : World} {E : TypeId} {cs : List Value} {ds : List Nat} {c : Nat} (hdl : ds.length = n) (hb : Blk w1 g E (putw cs ds)) (hn : n < cs.length) :
    ∀ j (h : j < (ds ++ [c]).length), (w1.setCell ⟨g, n, none⟩ (.int .u64 (c : Int))).cell? ⟨g, 0 + j, none⟩ = some (.int .u64 ((ds ++ [c])[j] : Int)) := fun j h => by
  subst hdl
  have := hb.set_ ds.length (wv c)
  rw [putw_set _ _ _ hn] at this
  rw [Nat.zero_add]
  exact this.wcell j h

set_option maxRecDepth 100000 in
set_option maxHeartbeats 400000 in
theorem natAdd_eq (A B : Option Addr) (ca cb : Nat) (xs ys : List Nat) (n : Nat) (w : World) (hx : Words w A xs) (hy : Words w B ys) (hxl : xs.length = n) (hyl : ys.length = n) (h0 : 0 < n) (hn : n ≤ 100000) (hca : n ≤ ca) (hcb : n ≤ cb) :
    Calls Tryz.prog 174 #[.slice none 0 0, .slice A n ca, .slice B n cb] w (RetNat (natOf xs + natOf ys) w) := by
  obtain ⟨bx, ox, rfl, hxc⟩ := hx.get (by intro h; subst h; simp at hxl; omega)
  obtain ⟨by_, oy, rfl, hyc⟩ := hy.get (by intro h; subst h; simp at hyl; omega)
  have hbx : bx < w.heap.size := cell_lt (hxc 0 (by omega))
  have hby : by_ < w.heap.size := cell_lt (hyc 0 (by omega))
  have HXL := Lib.hid hxl; have HYL := Lib.hid hyl; have HX := Lib.hid hx; have HY := Lib.hid hy; have HXC := Lib.hid hxc; have HYC := Lib.hid hyc
  clear hxl hyl hx hy hxc hyc
  have e0 : ((n : Int) == 0) = false := by simp; omega
  go_enter Tryz.func174, Tryz.ntmps174
  go_wp2_with (first | (go_at_call 218; refine (natMake (n + 1) _ (by omega) (by omega)).mono ?_; rintro e w' ⟨c', hc', rfl, rfl⟩))
  have hblk := Lib.hid (blkMake w c' (.int .u64 0) 221)
  have i1 : (n : Int) ≤ (c' : Int) := by omega
  have i2 : (n : Int) ≤ (ca : Int) := by omega
  have i3 : (n : Int) ≤ (cb : Int) := by omega
  go_region_held3 (fun _ => True) (first | exact trivial) (first | (go_at_call 219; refine (addVV w.heap.size c' bx ox ca by_ oy cb 221 (List.replicate c' (.int .u64 0)) xs ys n _ (by omega) (by exact hblk.out) (by simp; omega) HXL.out HYL.out HX.out.1 HY.out.1 (by omega) (by omega) (by exact fun j h => cell_old _ (HXC.out j h)) (by exact fun j h => cell_old _ (HYC.out j h))).mono ?_; rintro e w1 ⟨ds, c, rfl, hc1, hr⟩; have HR := Lib.hid hr; clear hr; obtain ⟨old, hold⟩ := HR.out.2.2.2.1.old n (by rw [putw_length _ _ (by rw [HR.out.1]; simp; omega)]; simp; omega); have hfz := HR.out.2.2.2.1.frozen n; simp only [wv]))
  go_wp2_with (first | (go_at_call 221; refine (natNorm w.heap.size 0 c' (ds ++ [c]) (n + 1) _ (by rw [List.length_append, HR.out.1]; rfl) (by omega) hc' (by exact sumCells HR.out.1 HR.out.2.2.2.1 (by rw [List.length_replicate]; omega))).mono ?_; rintro e w' ⟨es, rfl, rfl, hes⟩; have HE := Lib.hid hes; clear hes))
  go_ret
  obtain ⟨het, heN, hev⟩ := HE.out
  obtain ⟨hdl, hdb, hsum, hblk1, honly⟩ := HR.out
  have hb2 : Blk (w1.setCell ⟨w.heap.size, n, none⟩ (wv c)) w.heap.size 221 (putw (List.replicate c' (.int .u64 0)) (ds ++ [c])) := by
    have := hblk1.set_ n (wv c)
    rwa [← hdl, putw_set _ _ _ (by rw [hdl]; simp; omega), hdl] at this
  refine ⟨_, c', es, rfl, ?_, ⟨?_, fun _ => ⟨w.heap.size, 0, rfl, ⟨_, hb2⟩, ?_⟩⟩, heN, ?_, ?_⟩
  · have := congrArg List.length het; simp only [List.length_take, List.length_append, hdl, List.length_cons, List.length_nil] at this; omega
  · intro x hx
    rw [het] at hx
    rcases List.mem_append.1 (List.mem_of_mem_take hx) with h | h
    · exact hdb x h
    · simp at h; subst h; unfold B64; omega
  · intro j hj
    obtain ⟨hj', e1⟩ := take_getElem het j hj
    rw [e1, Nat.zero_add]
    exact hb2.wcell j _
  · rw [hev, natOf_snoc, hdl, ← hsum, Nat.mul_comm]
  · exact Only.ext (Below.drew (Ext.alloc' _ _)) ((honly.set_ n (wv c))) (Nat.le_refl _)
theorem noBorrow {ds xs ys : List Nat} {n c : Nat} (hl : ds.length = n) (hb : ∀ d ∈ ds, d < B64) (h : natOf ds + natOf ys = natOf xs + c * B64 ^ n) (hge : natOf ys ≤ natOf xs) (hc : c ≤ 1) : c = 0 := by
  have := natOf_lt ds hb
  rw [hl] at this
  rcases Nat.le_one_iff_eq_zero_or_eq_one.1 hc with rfl | rfl
  · rfl
  · omega

set_option maxRecDepth 100000 in
set_option maxHeartbeats 400000 in
theorem natSub_eq (A B : Option Addr) (ca cb : Nat) (xs ys : List Nat) (n : Nat) (w : World) (hx : Words w A xs) (hy : Words w B ys) (hxl : xs.length = n) (hyl : ys.length = n) (h0 : 0 < n) (hn : n ≤ 100000) (hca : n ≤ ca) (hcb : n ≤ cb) (hge : natOf ys ≤ natOf xs) :
    Calls Tryz.prog 176 #[.slice none 0 0, .slice A n ca, .slice B n cb] w (RetNat (natOf xs - natOf ys) w) := by
  obtain ⟨bx, ox, rfl, hxc⟩ := hx.get (by intro h; subst h; simp at hxl; omega)
  obtain ⟨by_, oy, rfl, hyc⟩ := hy.get (by intro h; subst h; simp at hyl; omega)
  have hbx : bx < w.heap.size := cell_lt (hxc 0 (by omega))
  have hby : by_ < w.heap.size := cell_lt (hyc 0 (by omega))
  have HXL := Lib.hid hxl; have HYL := Lib.hid hyl; have HX := Lib.hid hx; have HY := Lib.hid hy; have HXC := Lib.hid hxc; have HYC := Lib.hid hyc
  clear hxl hyl hx hy hxc hyc
  have e0 : ((n : Int) == 0) = false := by simp; omega
  go_enter Tryz.func176, Tryz.ntmps176
  go_wp2_with (first | (go_at_call 218; refine (natMake n _ (by omega) (by omega)).mono ?_; rintro e w' ⟨c', hc', rfl, rfl⟩))
  have hblk := Lib.hid (blkMake w c' (.int .u64 0) 221)
  have i1 : (n : Int) ≤ (c' : Int) := by omega
  have i2 : (n : Int) ≤ (ca : Int) := by omega
  have i3 : (n : Int) ≤ (cb : Int) := by omega
  go_region_held3 (fun _ => True) (first | exact trivial) (first | (go_at_call 222; refine (subVV w.heap.size c' bx ox ca by_ oy cb 221 (List.replicate c' (.int .u64 0)) xs ys n _ (by omega) (by exact hblk.out) (by simp; omega) HXL.out HYL.out HX.out.1 HY.out.1 (by omega) (by omega) (by exact fun j h => cell_old _ (HXC.out j h)) (by exact fun j h => cell_old _ (HYC.out j h))).mono ?_; rintro e w1 ⟨ds, c, rfl, hc1, hr⟩; have HR := Lib.hid hr; clear hr; obtain rfl := noBorrow HR.out.1 HR.out.2.1 HR.out.2.2.1 hge hc1; simp only [wv]))
  go_wp2_with (first | (go_at_call 221; refine (natNorm w.heap.size 0 c' ds n _ HR.out.1 (by omega) hc' (by exact fun j h => by rw [Nat.zero_add]; exact HR.out.2.2.2.1.wcell j h)).mono ?_; rintro e w' ⟨es, rfl, rfl, hes⟩; have HE := Lib.hid hes; clear hes))
  go_ret
  obtain ⟨het, heN, hev⟩ := HE.out
  obtain ⟨hdl, hdb, hsum, hblk1, honly⟩ := HR.out
  refine ⟨_, c', es, rfl, ?_, ⟨?_, fun _ => ⟨w.heap.size, 0, rfl, ⟨_, hblk1⟩, ?_⟩⟩, heN, ?_, ?_⟩
  · have := congrArg List.length het; simp only [List.length_take, hdl] at this; omega
  · intro x hx
    rw [het] at hx
    exact hdb x (List.mem_of_mem_take hx)
  · intro j hj
    obtain ⟨hj', e1⟩ := take_getElem het j hj
    rw [e1, Nat.zero_add]
    exact hblk1.wcell j _
  · rw [hev]; omega
  · exact Only.ext (Below.drew (Ext.alloc' _ _)) honly (Nat.le_refl _)
end Go.Proofs.YtfafiahefjimdaaGreatDoor

namespace Go.Proofs.YtfafiahefjimdaaGreatDoor
open Go Go.RowKit

set_option maxRecDepth 100000 in
theorem natAdd_none (A B : Option Addr) (ca cb : Nat) (w : World) :
    Calls Tryz.prog 174 #[.slice none 0 0, .slice A 0 ca, .slice B 0 cb] w (RetNat 0 w) := by
  go_enter Tryz.func174, Tryz.ntmps174
  go_wp2
  go_ret
  exact ⟨none, 0, [], rfl, Nat.le_refl _, words_none _, norm_nil, rfl, Ext.refl _⟩
set_option maxRecDepth 100000 in
theorem natAdd_left (A B : Option Addr) (ca cb : Nat) (xs : List Nat) (w : World) (hx : Words w A xs) (hN : Norm xs) (h0 : 0 < xs.length) (hn : xs.length ≤ 1000000) :
    Calls Tryz.prog 174 #[.slice none 0 0, .slice A xs.length ca, .slice B 0 cb] w (RetNat (natOf xs) w) := by
  have HS := Lib.hid (natSet A ca xs w hx hn hN)
  obtain ⟨n, hl⟩ : ∃ n, xs.length = n := ⟨_, rfl⟩
  rw [hl] at HS h0 ⊢
  clear hx hN hn hl
  have e0 : ((n : Int) == 0) = false := by simp; omega
  go_enter Tryz.func174, Tryz.ntmps174
  go_wp2_with (go_at_call 217; refine HS.out.mono ?_; rintro e w' ⟨A', c', ws', rfl, hr⟩; have HR := Lib.hid hr; clear hr)
  go_ret
  exact ⟨A', c', ws', rfl, HR.out⟩
set_option maxRecDepth 100000 in
theorem natAdd_right (A B : Option Addr) (ca cb : Nat) (ys : List Nat) (w : World) (hy : Words w B ys) (hN : Norm ys) (h0 : 0 < ys.length) (hn : ys.length ≤ 1000000) :
    Calls Tryz.prog 174 #[.slice none 0 0, .slice A 0 ca, .slice B ys.length cb] w (RetNat (natOf ys) w) := by
  have HS := Lib.hid (natAdd_left B A cb ca ys w hy hN h0 hn)
  obtain ⟨n, hl⟩ : ∃ n, ys.length = n := ⟨_, rfl⟩
  rw [hl] at HS h0 ⊢
  clear hy hN hn hl
  go_enter Tryz.func174, Tryz.ntmps174
  go_wp2_with (go_at_call 174; refine HS.out.mono ?_; rintro e w' ⟨A', c', ws', rfl, hr⟩; have HR := Lib.hid hr; clear hr)
  go_ret
  exact ⟨A', c', ws', rfl, HR.out⟩

theorem natAdd1 (A B : Option Addr) (ca cb : Nat) (xs ys : List Nat) (w : World) (hx : Words w A xs) (hy : Words w B ys) (hNx : Norm xs) (hNy : Norm ys) (hxl : xs.length ≤ 1) (hyl : ys.length ≤ 1) (hca : xs.length ≤ ca) (hcb : ys.length ≤ cb) :
    Calls Tryz.prog 174 #[.slice none 0 0, .slice A xs.length ca, .slice B ys.length cb] w (RetNat (natOf xs + natOf ys) w) := by
  rcases Nat.eq_zero_or_pos xs.length with h | h <;> rcases Nat.eq_zero_or_pos ys.length with k | k
  · obtain rfl := List.eq_nil_of_length_eq_zero h
    obtain rfl := List.eq_nil_of_length_eq_zero k
    exact natAdd_none A B ca cb w
  · obtain rfl := List.eq_nil_of_length_eq_zero h
    have := natAdd_right A B ca cb ys w hy hNy k (by omega)
    rwa [show natOf [] + natOf ys = natOf ys by simp [natOf]]
  · obtain rfl := List.eq_nil_of_length_eq_zero k
    have := natAdd_left A B ca cb xs w hx hNx h (by omega)
    rwa [show natOf xs + natOf [] = natOf xs by simp [natOf]]
  · rw [show xs.length = 1 by omega, show ys.length = 1 by omega]
    exact natAdd_eq A B ca cb xs ys 1 w hx hy (by omega) (by omega) (by omega) (by omega) (by omega) (by omega)

set_option maxRecDepth 100000 in
theorem natSub_none (A B : Option Addr) (ca cb : Nat) (w : World) :
    Calls Tryz.prog 176 #[.slice none 0 0, .slice A 0 ca, .slice B 0 cb] w (RetNat 0 w) := by
  go_enter Tryz.func176, Tryz.ntmps176
  go_wp2
  go_ret
  exact ⟨none, 0, [], rfl, Nat.le_refl _, words_none _, norm_nil, rfl, Ext.refl _⟩
set_option maxRecDepth 100000 in
theorem natSub_left (A B : Option Addr) (ca cb : Nat) (xs : List Nat) (w : World) (hx : Words w A xs) (hN : Norm xs) (h0 : 0 < xs.length) (hn : xs.length ≤ 1000000) :
    Calls Tryz.prog 176 #[.slice none 0 0, .slice A xs.length ca, .slice B 0 cb] w (RetNat (natOf xs) w) := by
  have HS := Lib.hid (natSet A ca xs w hx hn hN)
  obtain ⟨n, hl⟩ : ∃ n, xs.length = n := ⟨_, rfl⟩
  rw [hl] at HS h0 ⊢
  clear hx hN hn hl
  have e0 : ((n : Int) == 0) = false := by simp; omega
  go_enter Tryz.func176, Tryz.ntmps176
  go_wp2_with (go_at_call 217; refine HS.out.mono ?_; rintro e w' ⟨A', c', ws', rfl, hr⟩; have HR := Lib.hid hr; clear hr)
  go_ret
  exact ⟨A', c', ws', rfl, HR.out⟩

theorem natSub1 (A B : Option Addr) (ca cb : Nat) (xs ys : List Nat) (w : World) (hx : Words w A xs) (hy : Words w B ys) (hNx : Norm xs) (hNy : Norm ys) (hxl : xs.length ≤ 1) (hyl : ys.length ≤ 1) (hca : xs.length ≤ ca) (hcb : ys.length ≤ cb)
    (hge : natOf ys ≤ natOf xs) :
    Calls Tryz.prog 176 #[.slice none 0 0, .slice A xs.length ca, .slice B ys.length cb] w (RetNat (natOf xs - natOf ys) w) := by
  rcases Nat.eq_zero_or_pos xs.length with h | h <;> rcases Nat.eq_zero_or_pos ys.length with k | k
  · obtain rfl := List.eq_nil_of_length_eq_zero h
    obtain rfl := List.eq_nil_of_length_eq_zero k
    exact natSub_none A B ca cb w
  · obtain rfl := List.eq_nil_of_length_eq_zero h
    have : ys = [] := (nil_iff hNy).1 (by simp [natOf] at hge; exact hge)
    subst this
    simp at k
  · obtain rfl := List.eq_nil_of_length_eq_zero k
    have := natSub_left A B ca cb xs w hx hNx h (by omega)
    rwa [show natOf xs - natOf [] = natOf xs by simp [natOf]]
  · rw [show xs.length = 1 by omega, show ys.length = 1 by omega]
    exact natSub_eq A B ca cb xs ys 1 w hx hy (by omega) (by omega) (by omega) (by omega) (by omega) (by omega) hge
end Go.Proofs.YtfafiahefjimdaaGreatDoor

namespace Go.Proofs.YtfafiahefjimdaaGreatDoor
open Go Go.RowKit

/-- A value handed back, draws alone in the world. -/
def RetQ (v : Value) (w : World) (e : Ending) (w' : World) : Prop := e = .returned v ∧ ∃ n, w' = w.drewN n

theorem cmpZ_lt {a b : Nat} (h : a < b) : cmpZ a b = -1 := by unfold cmpZ; rw [if_pos (by omega)]
theorem cmpZ_gt {a b : Nat} (h : b < a) : cmpZ a b = 1 := by unfold cmpZ; rw [if_neg (by omega), if_pos (by omega)]
theorem cmpZ_eq (a : Int) : cmpZ a a = 0 := by unfold cmpZ; rw [if_neg (by omega), if_neg (by omega)]

set_option maxRecDepth 100000 in
set_option maxHeartbeats 400000 in
theorem natCmp (A B : Option Addr) (ca cb : Nat) (xs ys : List Nat) (w : World) (hx : Words w A xs) (hy : Words w B ys) (hNx : Norm xs) (hNy : Norm ys) (hn : xs.length ≤ 1000000) (hm : ys.length ≤ 1000000) :
    Calls Tryz.prog 175 #[.slice A xs.length ca, .slice B ys.length cb] w (RetQ (.int .i64 (cmpZ (natOf xs) (natOf ys))) w) := by
  obtain ⟨m, hml⟩ : ∃ m, xs.length = m := ⟨_, rfl⟩
  obtain ⟨n, hnl⟩ : ∃ n, ys.length = n := ⟨_, rfl⟩
  rw [hml, hnl]; rw [hml] at hn; rw [hnl] at hm
  rcases Nat.lt_trichotomy m n with h | h | h
  · have F := Lib.hid (cmpZ_lt (natOf_lt_len hNy hx.1 (by omega)))
    clear hx hy hml hnl hNx hNy
    have e : ((m : Int) != n) = true := by simp; omega
    have e' : decide ((m : Int) < n) = true := by simp; omega
    go_enter Tryz.func175, Tryz.ntmps175
    go_wp2
    go_ret
    rw [F.out]; exact ⟨rfl, 0, rfl⟩
  · subst h
    rcases Nat.eq_zero_or_pos m with h0 | h0
    · subst h0
      obtain rfl := List.eq_nil_of_length_eq_zero hml
      obtain rfl := List.eq_nil_of_length_eq_zero hnl
      clear hx hy hml hnl hNx hNy
      have F := Lib.hid (cmpZ_eq (natOf []))
      go_enter Tryz.func175, Tryz.ntmps175
      go_wp2
      go_ret
      rw [F.out]; exact ⟨rfl, 0, rfl⟩
    · obtain ⟨bx, ox, rfl, hxc⟩ := hx.get (by intro h; subst h; simp at hml; omega)
      obtain ⟨by_, oy, rfl, hyc⟩ := hy.get (by intro h; subst h; simp at hnl; omega)
      have HXL := Lib.hid hml; have HYL := Lib.hid hnl; have HX := Lib.hid hx.1; have HY := Lib.hid hy.1; have HXC := Lib.hid hxc; have HYC := Lib.hid hyc
      clear hml hnl hx hy hxc hyc hNx hNy
      have e0 : ((m : Int) == 0) = false := by simp; omega
      go_enter Tryz.func175, Tryz.ntmps175
      go_wp2
      go_loopw [7] (fun i wr => ∃ (k q : Nat), k < m ∧ i = .int .i64 k ∧ wr = w.drewN q ∧ xs.drop (k + 1) = ys.drop (k + 1)) (fun i _ => (intOf i).toNat)
      case atStart => exact ⟨m - 1, 0, by omega, by go_num, rfl, by rw [List.drop_of_length_le (by rw [HXL.out]; omega), List.drop_of_length_le (by rw [HYL.out]; omega)]⟩
      case round =>
        obtain ⟨k, q, hk, rfl, rfl, hd⟩ := hrel
        have HD := Lib.hid hd; clear hd
        have hkx : k < xs.length := by rw [HXL.out]; exact hk
        have hky : k < ys.length := by rw [HYL.out]; exact hk
        obtain ⟨x, hxk⟩ : ∃ x, x = xs[k] := ⟨_, rfl⟩
        obtain ⟨y, hyk⟩ : ∃ y, y = ys[k] := ⟨_, rfl⟩
        have cx : w.cell? ⟨bx, ox + k, none⟩ = some (.int .u64 (x : Int)) := by rw [hxk]; exact HXC.out k hkx
        have cy : w.cell? ⟨by_, oy + k, none⟩ = some (.int .u64 (y : Int)) := by rw [hyk]; exact HYC.out k hky
        have HXK := Lib.hid hxk; have HYK := Lib.hid hyk
        clear hxk hyk
        have hll : xs.length = ys.length := HXL.out.trans HYL.out.symm
        have HLL := Lib.hid hll; clear hll
        have lo0 : (0 : Int) ≤ (k : Int) := by omega
        have lo1 : (k : Int) < (m : Int) := by omega
        by_cases hkk : 0 < k ∧ x = y
        · obtain ⟨hk0, rfl⟩ := hkk
          have hgt : decide (0 < k) = true := by simpa using hk0
          go_wp2
          go_quiet (fail)
          go_wp2
          go_roundw
          case rel =>
            refine ⟨k - 1, _, by omega, by go_num, rfl, ?_⟩
            rw [show k - 1 + 1 = k by omega, List.drop_eq_getElem_cons hkx, List.drop_eq_getElem_cons hky, HD.out, ← HXK.out, ← HYK.out]
          case measure => simp [intOf]; omega
        · rcases Nat.lt_trichotomy x y with hxy | hxy | hxy
          · have F := Lib.hid (cmpZ_lt (natOf_lt_at HLL.out k hkx HD.out HX.out (by rw [← HXK.out, ← HYK.out]; exact hxy)))
            have e1 : ((x : Int) == y) = false := by simp; omega
            rcases Nat.eq_zero_or_pos k with rfl | hk0
            all_goals
              try rw [Nat.add_zero] at cx cy
              go_wp2
              go_quiet (fail)
              go_wp2
              go_quiet (fail)
              go_wp2
              go_ret
              rw [F.out]; exact ⟨rfl, by first | exact dr0 _ | exact dr1 _ _ | exact dr2 _ _ _ | exact dr3 _ _ _ _ | exact dr4 _ _ _ _ _⟩
          · obtain rfl : k = 0 := by omega
            have F := Lib.hid (show cmpZ (natOf xs) (natOf ys) = 0 by
              rw [natOf_split xs 0 hkx, natOf_split ys 0 hky, HD.out, ← HXK.out, ← HYK.out, hxy]; exact cmpZ_eq _)
            subst hxy
            rw [Nat.add_zero] at cx cy
            go_wp2
            go_quiet (fail)
            go_wp2
            go_quiet (fail)
            go_wp2
            go_quiet (fail)
            go_wp2
            go_ret
            rw [F.out]; exact ⟨rfl, by first | exact dr0 _ | exact dr1 _ _ | exact dr2 _ _ _ | exact dr3 _ _ _ _ | exact dr4 _ _ _ _ _⟩
          · have F := Lib.hid (cmpZ_gt (natOf_lt_at HLL.out.symm k hky HD.out.symm HY.out (by rw [← HXK.out, ← HYK.out]; exact hxy)))
            have e1 : ((x : Int) == y) = false := by simp; omega
            rcases Nat.eq_zero_or_pos k with rfl | hk0
            all_goals
              try rw [Nat.add_zero] at cx cy
              go_wp2
              go_quiet (fail)
              go_wp2
              go_quiet (fail)
              go_wp2
              go_quiet (fail)
              go_wp2
              go_ret
              rw [F.out]; exact ⟨rfl, by first | exact dr0 _ | exact dr1 _ _ | exact dr2 _ _ _ | exact dr3 _ _ _ _ | exact dr4 _ _ _ _ _⟩
  · have F := Lib.hid (cmpZ_gt (natOf_lt_len hNx hy.1 (by omega)))
    clear hx hy hml hnl hNx hNy
    have e : ((m : Int) != n) = true := by simp; omega
    have e' : decide ((m : Int) < n) = false := by simp; omega
    go_enter Tryz.func175, Tryz.ntmps175
    go_wp2
    go_ret
    rw [F.out]; exact ⟨rfl, 0, rfl⟩
end Go.Proofs.YtfafiahefjimdaaGreatDoor

namespace Go.Proofs.YtfafiahefjimdaaGreatDoor
open Go Go.RowKit

theorem ptr_ne (W : World) {a b : Nat} {ca cb : List Value} (ha : Blk W a 173 ca) (hb : Blk W b 173 cb) (hne : a ≠ b) :
    (binOp .neq 107 (.pointer (some ⟨a, 0, none⟩)) (.pointer (some ⟨b, 0, none⟩))).run Tryz.prog W = .ok (.bool true) W := by
  obtain ⟨j, hj, hs⟩ : ∃ j, Tryz.prog.info? 173 = some j ∧ j.size ≠ 0 := by
    have h : (Tryz.prog.info? 173).map (·.size) = some 2 := by kernel_rfl
    obtain ⟨j, h1, h2⟩ := Option.map_eq_some_iff.1 h
    exact ⟨j, h1, by rw [h2]; decide⟩
  have h : ∀ d : Nat, (Op.equalIn (d + 1) 107 (.pointer (some ⟨a, 0, none⟩)) (.pointer (some ⟨b, 0, none⟩))).run Tryz.prog W = .ok false W := fun d => by
    simp [Op.equalIn, run_underlying Tryz.underlying107, sizeOf, typeInfo, hj, hs, run_sameAddr_other W (a := ⟨a, 0, none⟩) (b := ⟨b, 0, none⟩) (by intro e; injection e with e; exact hne e) ha hb]
  simp only [binOp]
  simp [Op.equal, Op.maxDepth, h 9999]
theorem ptr_eq_same (W : World) (a : Nat) :
    (binOp .eql 107 (.pointer (some ⟨a, 0, none⟩)) (.pointer (some ⟨a, 0, none⟩))).run Tryz.prog W = .ok (.bool true) W := by
  obtain ⟨j, hj, hs⟩ : ∃ j, Tryz.prog.info? 173 = some j ∧ j.size ≠ 0 := by
    have h : (Tryz.prog.info? 173).map (·.size) = some 2 := by kernel_rfl
    obtain ⟨j, h1, h2⟩ := Option.map_eq_some_iff.1 h
    exact ⟨j, h1, by rw [h2]; decide⟩
  have h : ∀ d : Nat, (Op.equalIn (d + 1) 107 (.pointer (some ⟨a, 0, none⟩)) (.pointer (some ⟨a, 0, none⟩))).run Tryz.prog W = .ok true W := fun d => by
    simp [Op.equalIn, run_underlying Tryz.underlying107, sizeOf, typeInfo, hj, run_sameAddr_same]
  simp only [binOp]
  simp [Op.equal, Op.maxDepth, h 9999]
theorem ptr_eq_other (W : World) {a b : Nat} {ca cb : List Value} (ha : Blk W a 173 ca) (hb : Blk W b 173 cb) (hne : a ≠ b) :
    (binOp .eql 107 (.pointer (some ⟨a, 0, none⟩)) (.pointer (some ⟨b, 0, none⟩))).run Tryz.prog W = .ok (.bool false) W := by
  obtain ⟨j, hj, hs⟩ : ∃ j, Tryz.prog.info? 173 = some j ∧ j.size ≠ 0 := by
    have h : (Tryz.prog.info? 173).map (·.size) = some 2 := by kernel_rfl
    obtain ⟨j, h1, h2⟩ := Option.map_eq_some_iff.1 h
    exact ⟨j, h1, by rw [h2]; decide⟩
  have h : ∀ d : Nat, (Op.equalIn (d + 1) 107 (.pointer (some ⟨a, 0, none⟩)) (.pointer (some ⟨b, 0, none⟩))).run Tryz.prog W = .ok false W := fun d => by
    simp [Op.equalIn, run_underlying Tryz.underlying107, sizeOf, typeInfo, hj, hs, run_sameAddr_other W (a := ⟨a, 0, none⟩) (b := ⟨b, 0, none⟩) (by intro e; injection e with e; exact hne e) ha hb]
  simp only [binOp]
  simp [Op.equal, Op.maxDepth, h 9999]

theorem natAbs_bigVal (neg : Bool) (ws : List Nat) : (bigVal neg ws).natAbs = natOf ws := by cases neg <;> simp [bigVal]

set_option maxRecDepth 100000 in
theorem intSet (b : Nat) (v : Value) (z : Int) (w : World) (hv : IsBig w v z) (hne : v ≠ .pointer (some ⟨b, 0, none⟩)) (hb : Blk w b 173 [.bool false, .slice none 0 0]) (hz : z.natAbs < B64) :
    Calls Tryz.prog 232 #[.pointer (some ⟨b, 0, none⟩), v] w (RetInto b z w) := by
  obtain ⟨x, rfl, A, c, ws, neg, hx, hw, hl, hN, h0, rfl⟩ := hv
  have hxb : x ≠ b := fun e => hne (by rw [e])
  have hlen := len_le_one hN (by rw [natAbs_bigVal] at hz; exact hz)
  have c0 : w.cell? ⟨x, 0, none⟩ = some (.bool neg) := (hx.cell 0).trans rfl
  have c1 : w.cell? ⟨x, 1, none⟩ = some (.slice A ws.length c) := (hx.cell 1).trans rfl
  have z0 : w.cell? ⟨b, 0, none⟩ = some (.bool false) := (hb.cell 0).trans rfl
  have z1 : w.cell? ⟨b, 1, none⟩ = some (.slice none 0 0) := (hb.cell 1).trans rfl
  have hpn := ptr_ne w hb hx (Ne.symm hxb)
  have HW := Lib.hid hw; have HB := Lib.hid hb; have HX := Lib.hid hx; have H0 := Lib.hid h0
  clear hw hb hx h0 hne
  go_enter Tryz.func232, Tryz.ntmps232
  go_wp2
  go_region_law (first | (go_simp; go_at_call 217; refine (natSet A c ws _ (by exact HW.out) (by omega) hN).mono ?_; rintro e w1 ⟨A', c', ws', rfl, hn⟩; have hE : Ext w w1 := Ext.undrew hn.2.2.2.2; have HN := Lib.hid hn; clear hn; have z1' := hE.cell' z1; have c1' := hE.cell' c1; have c0' := hE.cell' c0; have z0' := hE.cell' z0; have fz1 := (HB.out.ext hE).frozen 1; have fz0 := (HB.out.ext hE).frozen 0; have HE := Lib.hid hE; clear hE))
  all_goals go_wp2
  all_goals go_ret
  all_goals
    obtain ⟨hl', hw', hN', he', _⟩ := HN.out
    have hb1 := HB.out.ext HE.out
    exact ⟨rfl, ⟨A', c', ws', neg, ((hb1.set_ 1 _).set_ 0 _), (hw'.set_ (by intro a ha hn; subst ha; exact words_ne hw' hn hb1) 1 _).set_ (by intro a ha hn; subst ha; exact words_ne hw' hn hb1) 0 _, hl', hN', fun e => H0.out (nil_congr hN hN' he' e), bigVal_congr he'⟩, ((Only.of_ext HE.out).set_ 1 _).set_ 0 _⟩
end Go.Proofs.YtfafiahefjimdaaGreatDoor

namespace Go.Proofs.YtfafiahefjimdaaGreatDoor
open Go Go.RowKit

def sgn (z : Int) : Int := if z < 0 then -1 else if 0 < z then 1 else 0
theorem natOf_pos {ws : List Nat} (hN : Norm ws) (h : ws ≠ []) : 0 < natOf ws := by
  rcases Nat.eq_zero_or_pos (natOf ws) with e | e
  · exact absurd ((nil_iff hN).1 e) h
  · exact e

set_option maxRecDepth 100000 in
theorem intSign (v : Value) (z : Int) (w : World) (hv : IsBig w v z) : Calls Tryz.prog 123 #[v] w fun e w' => e = .returned (.int .i64 (sgn z)) ∧ w' = w := by
  obtain ⟨x, rfl, A, c, ws, neg, hx, hw, hl, hN, h0, rfl⟩ := hv
  have c0 : w.cell? ⟨x, 0, none⟩ = some (.bool neg) := (hx.cell 0).trans rfl
  have c1 : w.cell? ⟨x, 1, none⟩ = some (.slice A ws.length c) := (hx.cell 1).trans rfl
  clear hx hw
  rcases List.eq_nil_or_concat ws with rfl | ⟨l, a, e⟩
  · have F := Lib.hid (show sgn (bigVal neg []) = 0 by rw [h0 rfl]; rfl)
    clear h0 hN
    simp only [List.length_nil] at c1
    go_enter Tryz.func123, Tryz.ntmps123
    go_wp2
    go_ret
    rw [F.out]; exact ⟨rfl, rfl⟩
  · have hne : ws ≠ [] := by rw [e]; simp
    have hp := natOf_pos hN hne
    obtain ⟨n, hl'⟩ : ∃ n, ws.length = n := ⟨_, rfl⟩
    have hn : 0 < n := by rw [← hl']; exact List.length_pos_iff.2 hne
    rw [hl'] at c1
    have e0 : ((n : Int) == 0) = false := by simp; omega
    have F := Lib.hid (show sgn (bigVal neg ws) = if neg then -1 else 1 by cases neg <;> simp [sgn, bigVal] <;> omega)
    clear h0 hN e hne hl hl'
    cases neg
    all_goals
      go_enter Tryz.func123, Tryz.ntmps123
      go_wp2
      go_ret
      rw [F.out]; exact ⟨rfl, rfl⟩

set_option maxRecDepth 100000 in
theorem natLow (A : Option Addr) (c : Nat) (ws : List Nat) (w : World) (hw : Words w A ws) (hl : ws.length ≤ 1) : Calls Tryz.prog 235 #[.slice A ws.length c] w fun e w' => e = .returned (.int .u64 (natOf ws : Int)) ∧ w' = w := by
  match ws, hl with
  | [], _ =>
    clear hw
    go_enter Tryz.func235, Tryz.ntmps235
    go_wp2
    go_ret
    exact ⟨rfl, rfl⟩
  | [a], _ =>
    obtain ⟨g, o, rfl, hc⟩ := hw.get (by simp)
    have c0 : w.cell? ⟨g, o, none⟩ = some (.int .u64 (a : Int)) := hc 0 (by simp)
    have F := Lib.hid (natOf_one a)
    clear hw hc
    go_enter Tryz.func235, Tryz.ntmps235
    go_wp2
    go_ret
    rw [F.out]; exact ⟨rfl, rfl⟩

def maxI : Int := 9223372036854775807
theorem i64_conv (n : Nat) (h : (n : Int) ≤ maxI) : IntKind.i64.wrap (n : Int) = n := by rw [IntKind.wrap_i64]; unfold maxI at h; omega

set_option maxRecDepth 100000 in
theorem intInt64 (v : Value) (z : Int) (w : World) (hv : IsBig w v z) (h0 : -maxI ≤ z) (h1 : z ≤ maxI) : Calls Tryz.prog 188 #[v] w fun e w' => e = .returned (.int .i64 z) ∧ w' = w := by
  obtain ⟨x, rfl, A, c, ws, neg, hx, hw, hl, hN, hz, rfl⟩ := hv
  have c0 : w.cell? ⟨x, 0, none⟩ = some (.bool neg) := (hx.cell 0).trans rfl
  have c1 : w.cell? ⟨x, 1, none⟩ = some (.slice A ws.length c) := (hx.cell 1).trans rfl
  have hle : (natOf ws : Int) ≤ maxI := by cases neg <;> simp [bigVal] at h0 h1 <;> omega
  have hlen : ws.length ≤ 1 := len_le_one hN (by unfold maxI at hle; unfold B64; omega)
  have HL := Lib.hid (natLow A c ws w hw hlen)
  have E := i64_conv _ hle
  obtain ⟨m, hm⟩ : ∃ m, m = natOf ws := ⟨_, rfl⟩
  rw [← hm] at HL E
  have E' : wrap64 (m : Int) = m := by rw [wrap64, ← IntKind.wrap_i64]; exact E
  have E2 : wrap64 (-(m : Int)) = -(m : Int) := by unfold wrap64; rw [← hm] at hle; unfold maxI at hle; omega
  have F := Lib.hid (show bigVal neg ws = if neg then -(m : Int) else m by rw [hm]; rfl)
  clear hx hw hN hz hl hlen hm h0 h1 hle
  have HE := Lib.hid E; have HE' := Lib.hid E'; have HE2 := Lib.hid E2; clear E E' E2
  cases neg
  all_goals
    go_enter Tryz.func188, Tryz.ntmps188
    go_wp2_with (go_at_call 235; refine HL.out.mono ?_; rintro e w' ⟨rfl, rfl⟩)
    go_ret
    refine ⟨?_, rfl⟩
    rw [F.out]
    first
    | (show Ending.returned (.int .i64 (wrap64 (-wrap64 (m : Int)))) = _; rw [HE'.out, HE2.out]; simp; done)
    | (show Ending.returned (.int .i64 (wrap64 (m : Int))) = _; rw [HE'.out]; simp)

set_option maxRecDepth 100000 in
theorem intIsInt64 (v : Value) (z : Int) (w : World) (hv : IsBig w v z) (h0 : -maxI ≤ z) (h1 : z ≤ maxI) : Calls Tryz.prog 187 #[v] w fun e w' => e = .returned (.bool true) ∧ w' = w := by
  obtain ⟨x, rfl, A, c, ws, neg, hx, hw, hl, hN, hz, rfl⟩ := hv
  have c0 : w.cell? ⟨x, 0, none⟩ = some (.bool neg) := (hx.cell 0).trans rfl
  have c1 : w.cell? ⟨x, 1, none⟩ = some (.slice A ws.length c) := (hx.cell 1).trans rfl
  have hle : (natOf ws : Int) ≤ maxI := by cases neg <;> simp [bigVal] at h0 h1 <;> omega
  have hlen : ws.length ≤ 1 := len_le_one hN (by unfold maxI at hle; unfold B64; omega)
  have HL := Lib.hid (natLow A c ws w hw hlen)
  obtain ⟨m, hm⟩ : ∃ m, m = natOf ws := ⟨_, rfl⟩
  rw [← hm] at HL
  have E' : 0 ≤ wrap64 (m : Int) := by unfold wrap64; rw [← hm] at hle; unfold maxI at hle; omega
  have E2 : decide (0 ≤ wrap64 (m : Int)) = true := by simpa using E'
  obtain ⟨n, hn⟩ : ∃ n, ws.length = n := ⟨_, rfl⟩
  rw [hn] at c1 HL hlen
  have e1 : decide (n ≤ 1) = true := by simpa using hlen
  clear hx hw hN hz hl hm h0 h1 hle hn
  go_enter Tryz.func187, Tryz.ntmps187
  go_wp2_with (go_at_call 235; refine HL.out.mono ?_; rintro e w' ⟨rfl, rfl⟩)
  go_ret
  exact ⟨rfl, rfl⟩

set_option maxRecDepth 100000 in
theorem intBits (v : Value) (z : Int) (w : World) (hv : IsBig w v z) (hz : z.natAbs < B64) : Calls Tryz.prog 328 #[v] w fun e w' => (∃ A n c, n ≤ 1 ∧ e = .returned (.slice A n c)) ∧ w' = w := by
  obtain ⟨x, rfl, A, c, ws, neg, hx, hw, hl, hN, h0, rfl⟩ := hv
  have c1 : w.cell? ⟨x, 1, none⟩ = some (.slice A ws.length c) := (hx.cell 1).trans rfl
  have hlen := len_le_one hN (by rw [natAbs_bigVal] at hz; exact hz)
  clear hx hw h0 hN hz
  go_enter Tryz.func328, Tryz.ntmps328
  go_wp2
  go_ret
  exact ⟨⟨A, ws.length, c, hlen, rfl⟩, rfl⟩

theorem cmpZ_flip (s : Bool) (a b : Nat) : (if s then -cmpZ a b else cmpZ a b) = cmpZ (if s then -(a : Int) else a) (if s then -(b : Int) else b) := by
  cases s
  · rfl
  · simp only [if_true]; unfold cmpZ; split <;> split <;> (try split) <;> (try split) <;> omega

theorem quietQ {P : Program} {f : FuncId} {args : Array Value} {w : World} {a n : Nat} {v : Value} (h : Calls P f args (w.drewN (a + n)) (RetQ v (w.drewN (a + n)))) :
    Calls P f args (w.drewN (a + n)) fun e w'' => e = .returned v ∧ ∃ m, w'' = w.drewN (a + m) :=
  h.mono fun _ _ ⟨he, m, hm⟩ => ⟨he, n + m, by rw [hm, World.drewN_drewN, Nat.add_assoc]⟩

set_option maxRecDepth 100000 in
set_option maxHeartbeats 400000 in
theorem intCmp (u v : Value) (y z : Int) (w : World) (hu : IsBig w u y) (hv : IsBig w v z) (hy : y.natAbs < B64) (hz : z.natAbs < B64) :
    Calls Tryz.prog 231 #[u, v] w (RetQ (.int .i64 (cmpZ y z)) w) := by
  obtain ⟨a, rfl, A, c, xs, nx, ha, hxw, hxl, hxN, hx0, rfl⟩ := hu
  obtain ⟨b, rfl, B, d, ys, ny, hb, hyw, hyl, hyN, hy0, rfl⟩ := hv
  by_cases hab : a = b
  · subst hab
    have hsame : bigVal nx xs = bigVal ny ys := by
      unfold Blk at ha hb
      rw [ha] at hb
      injection hb with hb
      injection hb with hb _
      injection hb with hb
      injection hb with h1 h2
      injection h1 with h1
      injection h2 with h2
      injection h2 with h2 h3 _
      subst h1
      rcases Nat.eq_zero_or_pos xs.length with e | e
      · have e1 := List.eq_nil_of_length_eq_zero e
        have e2 := List.eq_nil_of_length_eq_zero (l := ys) (by omega)
        rw [e1, e2]
      · obtain ⟨g, o, hA, hc⟩ := hxw.get (by intro h; subst h; simp at e)
        obtain ⟨g', o', hB, hc'⟩ := hyw.get (by intro h; rw [h] at h3; simp at h3; rw [h3] at e; simp at e)
        rw [hA, hB] at h2
        injection h2 with h2
        injection h2 with h2 h4 _
        subst h2; subst h4
        have : xs = ys := by
          refine List.ext_getElem h3 (fun i h1 h2 => ?_)
          have := (hc i h1).symm.trans (hc' i h2)
          simp only [Option.some.injEq, Value.int.injEq, true_and] at this; omega
        rw [this]
    have F := Lib.hid (show cmpZ (bigVal nx xs) (bigVal ny ys) = 0 by rw [hsame]; exact cmpZ_eq _)
    have hp := ptr_eq_same w a
    clear hsame ha hb hxw hyw hxN hyN hx0 hy0 hy hz
    go_enter Tryz.func231, Tryz.ntmps231
    go_wp2
    go_ret
    rw [F.out]; exact ⟨rfl, dr0 _⟩
  · have hp := ptr_eq_other w ha hb hab
    have a0 : w.cell? ⟨a, 0, none⟩ = some (.bool nx) := (ha.cell 0).trans rfl
    have a1 : w.cell? ⟨a, 1, none⟩ = some (.slice A xs.length c) := (ha.cell 1).trans rfl
    have b0 : w.cell? ⟨b, 0, none⟩ = some (.bool ny) := (hb.cell 0).trans rfl
    have b1 : w.cell? ⟨b, 1, none⟩ = some (.slice B ys.length d) := (hb.cell 1).trans rfl
    rw [natAbs_bigVal] at hy hz
    have hx1 := len_le_one hxN hy
    have hy1 := len_le_one hyN hz
    have HC : Hid (∀ W, Words W A xs → Words W B ys → Calls Tryz.prog 175 #[.slice A xs.length c, .slice B ys.length d] W (RetQ (.int .i64 (cmpZ (natOf xs) (natOf ys))) W)) := fun W h1 h2 => natCmp A B c d xs ys W h1 h2 hxN hyN (by omega) (by omega)
    have HX := Lib.hid hxw; have HY := Lib.hid hyw
    have hpx : nx = true → 0 < natOf xs := fun e => natOf_pos hxN (fun h => by rw [hx0 h] at e; cases e)
    have hpy : ny = true → 0 < natOf ys := fun e => natOf_pos hyN (fun h => by rw [hy0 h] at e; cases e)
    have F := Lib.hid (show cmpZ (bigVal nx xs) (bigVal ny ys) = if nx = ny then (if nx then -cmpZ (natOf xs) (natOf ys) else cmpZ (natOf xs) (natOf ys)) else if nx then -1 else 1 by
      cases nx <;> cases ny <;> simp only [bigVal, if_true, if_false, Bool.false_eq_true, reduceCtorEq]
      · have := hpy rfl; unfold cmpZ; rw [if_neg (by omega), if_pos (by omega)]
      · have := hpx rfl; unfold cmpZ; rw [if_pos (by omega)]
      · have := cmpZ_flip true (natOf xs) (natOf ys); simpa using this.symm)
    clear ha hb hxw hyw hxN hyN hx0 hy0 hy hz hpx hpy
    cases nx <;> cases ny
    all_goals
      go_enter Tryz.func231, Tryz.ntmps231
      go_wp2
      go_quiet (fail)
      go_wp2
    · go_quiet ((go_at_call 175; exact quietQ (HC.out _ (by exact HX.out) (by exact HY.out))))
      go_wp2
      go_ret
      rw [F.out]; exact ⟨rfl, by first | exact dr1 _ _ | exact dr2 _ _ _⟩
    · go_ret
      rw [F.out]; exact ⟨rfl, by first | exact dr1 _ _ | exact dr2 _ _ _⟩
    · go_ret
      rw [F.out]; exact ⟨rfl, by first | exact dr1 _ _ | exact dr2 _ _ _⟩
    · go_quiet ((go_at_call 175; exact quietQ (HC.out _ (by exact HX.out) (by exact HY.out))))
      go_wp2
      go_ret
      rw [F.out]
      have hr : -1 ≤ cmpZ (natOf xs) (natOf ys) ∧ cmpZ (natOf xs) (natOf ys) ≤ 1 := by unfold cmpZ; split <;> (try split) <;> omega
      have e : wrap64 (-cmpZ (natOf xs) (natOf ys)) = -cmpZ (natOf xs) (natOf ys) := by unfold wrap64; omega
      refine ⟨?_, by first | exact dr1 _ _ | exact dr2 _ _ _⟩
      show Ending.returned (.int .i64 (wrap64 (-cmpZ (natOf xs) (natOf ys)))) = _
      rw [e]; rfl
end Go.Proofs.YtfafiahefjimdaaGreatDoor

namespace Go.Proofs.YtfafiahefjimdaaGreatDoor
open Go Go.RowKit

/-- A value handed back; nothing that was there has turned. -/
def RetE (v : Value) (w : World) (e : Ending) (w' : World) : Prop := e = .returned v ∧ Ext w w'
/-- An Int handed back. -/
def RetInt (z : Int) (w : World) (e : Ending) (w' : World) : Prop := ∃ b, e = .returned (.agg #[.pointer (some ⟨b, 0, none⟩)]) ∧ BigAt w' b z ∧ Ext w w'

/-- A box of an Int. -/
abbrev intBox (b : Nat) : Obj := .cells #[.pointer (some ⟨b, 0, none⟩)] 150

set_option maxRecDepth 100000 in
theorem mNewInt (x : Int) (w : World) (h0 : -maxI ≤ x) (h1 : x ≤ maxI) : Calls Tryz.prog 155 #[.int .i64 x] w (RetInt x w) := by
  unfold maxI at h0 h1
  have nb := Lib.hid (Blk.new w 150 [.pointer none])
  go_enter Tryz.func155, Tryz.ntmps155
  go_wp2_with (go_at_call 119; refine (newInt x _ h0 h1).mono ?_; rintro e w' ⟨v, rfl, ⟨b, rfl, hB⟩, hE⟩; have HB := Lib.hid hB; have b1 := Lib.hid (nb.out.ext hE); have HE := Lib.hid hE; clear hB hE; have c0 : w'.cell? ⟨w.heap.size, 0, none⟩ = some (.pointer none) := (b1.out.cell 0).trans rfl; have fz := b1.out.frozen 0)
  exact bodyPost_ret (v := .agg #[.pointer (some ⟨b, 0, none⟩)]) (by simp [results, Tryz.results155, go_sem, c0]) rfl ⟨b, rfl, HB.out.set_ b1.out 0 _, Only.ext ((Ext.alloc' _ _).trans' HE.out) ((Only.refl _ _).set_ 0 _) (Nat.le_refl _)⟩

set_option maxRecDepth 100000 in
theorem mIsNil (b : Nat) (z : Int) (w : World) (_ : BigAt w b z) : Calls Tryz.prog 159 #[.agg #[.pointer (some ⟨b, 0, none⟩)]] w (RetE (.bool false) w) := by
  have hp : ∀ W : World, (binOp .eql 107 (.pointer (some ⟨b, 0, none⟩)) (.pointer none)).run Tryz.prog W = .ok (.bool false) W := fun _ => by kernel_rfl
  go_enter Tryz.func159, Tryz.ntmps159
  go_wp2
  go_ret
  exact ⟨rfl, Ext.alloc' _ _⟩

set_option maxRecDepth 100000 in
theorem mIsInt64 (b : Nat) (z : Int) (w : World) (h : BigAt w b z) (h0 : -maxI ≤ z) (h1 : z ≤ maxI) : Calls Tryz.prog 170 #[.agg #[.pointer (some ⟨b, 0, none⟩)]] w (RetE (.bool true) w) := by
  have H := Lib.hid h; clear h
  go_enter Tryz.func170, Tryz.ntmps170
  go_wp2_with (go_at_call 187; refine (intIsInt64 _ z _ (by exact (H.out.ext (Ext.alloc' _ _)).big) h0 h1).mono ?_; rintro e w' ⟨rfl, rfl⟩)
  go_ret
  exact ⟨rfl, Ext.alloc' _ _⟩

set_option maxRecDepth 100000 in
theorem mInt64 (b : Nat) (z : Int) (w : World) (h : BigAt w b z) (h0 : -maxI ≤ z) (h1 : z ≤ maxI) : Calls Tryz.prog 171 #[.agg #[.pointer (some ⟨b, 0, none⟩)]] w (RetE (.int .i64 z) w) := by
  have H := Lib.hid h; clear h
  go_enter Tryz.func171, Tryz.ntmps171
  go_wp2_with (first | (go_at_call 187; refine (intIsInt64 _ z _ (by exact (H.out.ext (Ext.alloc' _ _)).big) h0 h1).mono ?_; rintro e w' ⟨rfl, rfl⟩) | (go_at_call 188; refine (intInt64 _ z _ (by exact (H.out.ext (Ext.alloc' _ _)).big) h0 h1).mono ?_; rintro e w' ⟨rfl, rfl⟩))
  go_ret
  exact ⟨rfl, Ext.alloc' _ _⟩

set_option maxRecDepth 100000 in
theorem mIsZero (b : Nat) (z : Int) (w : World) (h : BigAt w b z) : Calls Tryz.prog 157 #[.agg #[.pointer (some ⟨b, 0, none⟩)]] w (RetE (.bool (sgn z == 0)) w) := by
  have H := Lib.hid h; clear h
  go_enter Tryz.func157, Tryz.ntmps157
  go_wp2_with (go_at_call 123; refine (intSign _ z _ (by exact (H.out.ext (Ext.alloc' _ _)).big)).mono ?_; rintro e w' ⟨rfl, rfl⟩)
  go_ret
  exact ⟨rfl, Ext.alloc' _ _⟩

set_option maxRecDepth 100000 in
theorem mIsNegative (b : Nat) (z : Int) (w : World) (h : BigAt w b z) : Calls Tryz.prog 160 #[.agg #[.pointer (some ⟨b, 0, none⟩)]] w (RetE (.bool (sgn z == -1)) w) := by
  have H := Lib.hid h; clear h
  go_enter Tryz.func160, Tryz.ntmps160
  go_wp2_with (go_at_call 123; refine (intSign _ z _ (by exact (H.out.ext (Ext.alloc' _ _)).big)).mono ?_; rintro e w' ⟨rfl, rfl⟩)
  go_ret
  exact ⟨rfl, Ext.alloc' _ _⟩

set_option maxRecDepth 100000 in
theorem mSign (b : Nat) (z : Int) (w : World) (h : BigAt w b z) : Calls Tryz.prog 158 #[.agg #[.pointer (some ⟨b, 0, none⟩)]] w (RetE (.int .i64 (sgn z)) w) := by
  have H := Lib.hid h; clear h
  go_enter Tryz.func158, Tryz.ntmps158
  go_wp2_with (go_at_call 123; refine (intSign _ z _ (by exact (H.out.ext (Ext.alloc' _ _)).big)).mono ?_; rintro e w' ⟨rfl, rfl⟩)
  go_ret
  exact ⟨rfl, Ext.alloc' _ _⟩

end Go.Proofs.YtfafiahefjimdaaGreatDoor
