/-
  Words on memory, of no program: a world that only grows ('Ext'), a slice of machine words, a big integer behind a pointer, and lists of records. Plain lemmas.
-/
import Derived.WalkKit
import Derived.Lib.Hide
import Derived.Deep.Draws
import Derived.Laws.Rows
import Derived.Maps.AppendAt
namespace Go.Proofs.YtagfbefgcijegaaGreatDoor
open Go Go.RowKit

/-- The digit base: 2^64, behind a name. -/
def B64 : Nat := 18446744073709551616
theorem B64_eq : B64 = 18446744073709551616 := rfl
theorem B64_pos : 0 < B64 := by unfold B64; omega

def natOf : List Nat → Nat
  | [] => 0
  | x :: xs => x + B64 * natOf xs

/-- All that was there stands. -/
abbrev Ext (w w' : World) : Prop := Below w.heap.size w w'

theorem cell_lt {w : World} {p : Addr} {v : Value} (h : w.cell? p = some v) : p.block < w.heap.size := by
  unfold World.cell? at h
  rcases Nat.lt_or_ge p.block w.heap.size with hlt | hge
  · exact hlt
  · rw [Array.getElem?_eq_none hge] at h; cases h

theorem Ext.refl (w : World) : Ext w w := Below.refl _ _
theorem Ext.trans' {a b c : World} (h : Ext a b) (k : Ext b c) : Ext a c := Below.trans h (Below.mono k h.size)
theorem Ext.cell' {w w' : World} {p : Addr} {v : Value} (h : Ext w w') (hc : w.cell? p = some v) : w'.cell? p = some v := (Below.cell h (cell_lt hc)).trans hc
theorem Ext.alloc' (w : World) (o : Obj) : Ext w (w.alloc o) := (Below.refl _ _).alloc (Nat.le_refl _) o
theorem Ext.drewN' (w : World) (n : Nat) : Ext w (w.drewN n) := ⟨rfl, rfl, rfl, Nat.le_refl _, fun _ _ => rfl⟩
theorem Below.drewN' {B : Nat} {a w : World} (h : Below B a w) (n : Nat) : Below B a (w.drewN n) := ⟨h.os, h.tape, h.output, h.size, h.block⟩

/-- Block g is just these cells, none frozen. -/
def Blk (w : World) (g : Nat) (t : TypeId) (cs : List Value) : Prop := w.heap[g]? = some (.cells cs.toArray t (0, 0))
theorem Blk.lt {w : World} {g : Nat} {t : TypeId} {cs : List Value} (h : Blk w g t cs) : g < w.heap.size := (Array.getElem?_eq_some_iff.1 h).1
theorem Blk.cell {w : World} {g : Nat} {t : TypeId} {cs : List Value} (h : Blk w g t cs) (i : Nat) : w.cell? ⟨g, i, none⟩ = cs[i]? := by
  unfold Blk at h
  simp only [World.cell?, h]; simp
theorem Blk.frozen {w : World} {g : Nat} {t : TypeId} {cs : List Value} (h : Blk w g t cs) (i : Nat) : w.frozen? ⟨g, i, none⟩ = false := by
  unfold Blk at h
  simp [World.frozen?, h]
theorem Blk.new (w : World) (t : TypeId) (cs : List Value) : Blk (w.alloc (.cells cs.toArray t)) w.heap.size t cs := heap_alloc_new w _
theorem Blk.alloc {w : World} {g : Nat} {t : TypeId} {cs : List Value} (h : Blk w g t cs) (o : Obj) : Blk (w.alloc o) g t cs := (Below.heap_alloc w o g h.lt).trans h
theorem Blk.set_ {w : World} {g : Nat} {t : TypeId} {cs : List Value} (h : Blk w g t cs) (i : Nat) (u : Value) : Blk (w.setCell ⟨g, i, none⟩ u) g t (cs.set i u) := by
  unfold Blk at h ⊢
  simp [World.setCell, Array.getElem?_modify, h]
theorem Blk.ext {w w' : World} {g : Nat} {t : TypeId} {cs : List Value} (h : Blk w g t cs) (e : Ext w w') : Blk w' g t cs := (e.block g h.lt).trans h
theorem Blk.drewN {w : World} {g : Nat} {t : TypeId} {cs : List Value} (h : Blk w g t cs) (n : Nat) : Blk (w.drewN n) g t cs := h
theorem Blk.ne {w : World} {g g' : Nat} {t t' : TypeId} {cs cs' : List Value} (h : Blk w g t cs) (h' : Blk w g' t' cs') (hne : t ≠ t') : g ≠ g' := by
  rintro rfl
  unfold Blk at h h'
  rw [h] at h'
  injection h' with h'
  injection h' with _ ht
  exact hne ht

/-- A slice value whose n = ws.length words are ws. -/
def Words (w : World) (A : Option Addr) (ws : List Nat) : Prop :=
  (∀ x ∈ ws, x < B64) ∧ (ws ≠ [] → ∃ g o, A = some ⟨g, o, none⟩ ∧ (∃ cs, Blk w g 138 cs) ∧ ∀ j (h : j < ws.length), w.cell? ⟨g, o + j, none⟩ = some (.int .u64 (ws[j] : Int)))

theorem Words.get {w : World} {A : Option Addr} {ws : List Nat} (h : Words w A ws) (hn : ws ≠ []) : ∃ g o, A = some ⟨g, o, none⟩ ∧ ∀ j (h : j < ws.length), w.cell? ⟨g, o + j, none⟩ = some (.int .u64 (ws[j] : Int)) := by
  obtain ⟨g, o, ha, _, hc⟩ := h.2 hn
  exact ⟨g, o, ha, hc⟩
theorem Words.ext {w w' : World} {A : Option Addr} {ws : List Nat} (h : Words w A ws) (e : Ext w w') : Words w' A ws :=
  ⟨h.1, fun hn => by
    obtain ⟨g, o, ha, ⟨cs, hb⟩, hc⟩ := h.2 hn
    exact ⟨g, o, ha, ⟨cs, hb.ext e⟩, fun j hj => e.cell' (hc j hj)⟩⟩

/-- The words end in one that is not 0. -/
def Norm (ws : List Nat) : Prop := ∀ x, ws.getLast? = some x → x ≠ 0

/-- The sign and the words of a big integer: its value. -/
def bigVal (neg : Bool) (ws : List Nat) : Int := if neg then -(natOf ws : Int) else (natOf ws : Int)

/-- A big integer whose record is block b, not frozen. -/
def BigAt (w : World) (b : Nat) (z : Int) : Prop :=
  ∃ A c ws neg, Blk w b 130 [.bool neg, .slice A ws.length c] ∧ Words w A ws ∧ ws.length ≤ c ∧ Norm ws ∧ (ws = [] → neg = false) ∧ z = bigVal neg ws
/-- v points to a big integer of value z. -/
def IsBig (w : World) (v : Value) (z : Int) : Prop := ∃ b, v = .pointer (some ⟨b, 0, none⟩) ∧ BigAt w b z
theorem BigAt.big {w : World} {b : Nat} {z : Int} (h : BigAt w b z) : IsBig w (.pointer (some ⟨b, 0, none⟩)) z := ⟨b, rfl, h⟩
theorem BigAt.lt {w : World} {b : Nat} {z : Int} (h : BigAt w b z) : b < w.heap.size := by
  obtain ⟨A, c, ws, neg, hb, _⟩ := h
  exact hb.lt
theorem BigAt.ext {w w' : World} {b : Nat} {z : Int} (h : BigAt w b z) (e : Ext w w') : BigAt w' b z := by
  obtain ⟨A, c, ws, neg, hb, hw, hr⟩ := h
  exact ⟨A, c, ws, neg, hb.ext e, hw.ext e, hr⟩
theorem IsBig.ext {w w' : World} {v : Value} {z : Int} (h : IsBig w v z) (e : Ext w w') : IsBig w' v z := by
  obtain ⟨b, hv, h⟩ := h
  exact ⟨b, hv, h.ext e⟩

/-- A slice of records of two cells: what they are by index. -/
def Recs {α : Type} (R : World → Value → Value → α → Prop) (w : World) (A : Option Addr) (l : List α) : Prop :=
  l ≠ [] → ∃ g o, A = some ⟨g, o, none⟩ ∧ ∀ j (h : j < l.length), ∃ u v, w.cell? ⟨g, o + 2 * j, none⟩ = some u ∧ w.cell? ⟨g, o + (2 * j + 1), none⟩ = some v ∧ R w u v l[j]

/-- A record with a text and an int64 (SumCoin, impl.Coin). -/
def PlainC (_ : World) (u v : Value) (x : ByteArray × Int) : Prop := u = .string x.1 ∧ v = .int .i64 x.2
/-- A coin: a text and a big integer. -/
def BigC (w : World) (u v : Value) (x : ByteArray × Int) : Prop := u = .string x.1 ∧ IsBig w v x.2

theorem Recs.ext {α : Type} {R : World → Value → Value → α → Prop} (hR : ∀ w w' u v x, Ext w w' → R w u v x → R w' u v x) {w w' : World} {A : Option Addr} {l : List α} (h : Recs R w A l) (e : Ext w w') : Recs R w' A l := fun hn => by
  obtain ⟨g, o, ha, hc⟩ := h hn
  exact ⟨g, o, ha, fun j hj => by
    obtain ⟨u, v, h1, h2, h3⟩ := hc j hj
    exact ⟨u, v, e.cell' h1, e.cell' h2, hR _ _ _ _ _ e h3⟩⟩
theorem PlainC.ext (w w' : World) (u v : Value) (x : ByteArray × Int) (_ : Ext w w') (h : PlainC w u v x) : PlainC w' u v x := h
theorem BigC.ext (w w' : World) (u v : Value) (x : ByteArray × Int) (e : Ext w w') (h : BigC w u v x) : BigC w' u v x := ⟨h.1, h.2.ext e⟩

theorem cell_new (w : World) (cs : Array Value) (t : TypeId) (i : Nat) : (w.alloc (.cells cs t)).cell? ⟨w.heap.size, i, none⟩ = cs[i]? := by
  have h : (w.alloc (.cells cs t)).heap[w.heap.size]? = some (.cells cs t (0, 0)) := heap_alloc_new w _
  simp only [World.cell?, h]; rfl
theorem cell_old {w : World} {p : Addr} {v : Value} (o : Obj) (h : w.cell? p = some v) : (w.alloc o).cell? p = some v := (Ext.alloc' w o).cell' h

theorem natOf_one (x : Nat) : natOf [x] = x := by simp [natOf]

/-- What NewInt lays for a number of one word that is not 0. -/
theorem isBig_one (w : World) (x : Nat) (neg : Bool) (hx : x < B64) (h0 : x ≠ 0) :
    IsBig ((w.alloc (.cells #[.int .u64 (x : Int)] 138)).alloc (.cells #[.bool neg, .slice (some ⟨w.heap.size, 0, none⟩) 1 1] 130)) (.pointer (some ⟨w.heap.size + 1, 0, none⟩)) (bigVal neg [x]) := by
  have hs : (w.alloc (.cells #[.int .u64 (x : Int)] 138)).heap.size = w.heap.size + 1 := by simp
  refine ⟨w.heap.size + 1, rfl, some ⟨w.heap.size, 0, none⟩, 1, [x], neg, ?_, ⟨?_, fun _ => ⟨w.heap.size, 0, rfl, ⟨_, (Blk.new w _ [.int .u64 (x : Int)]).ext (Ext.alloc' _ _)⟩, ?_⟩⟩, Nat.le_refl _, ?_, by simp, rfl⟩
  · rw [← hs]; exact Blk.new _ _ [.bool neg, .slice (some ⟨w.heap.size, 0, none⟩) 1 1]
  · simpa using hx
  · intro j hj
    have : j = 0 := by simpa using hj
    subst this
    exact cell_old _ (by rw [Nat.zero_add, cell_new]; rfl)
  · intro y hy; simp at hy; omega
theorem isBig_zero (w : World) (A : Option Addr) (c : Nat) : IsBig (w.alloc (.cells #[.bool false, .slice A 0 c] 130)) (.pointer (some ⟨w.heap.size, 0, none⟩)) 0 :=
  ⟨w.heap.size, rfl, A, c, [], false, Blk.new _ _ [.bool false, .slice A 0 c], ⟨by simp, fun h => absurd rfl h⟩, Nat.zero_le _, by intro y hy; simp at hy, fun _ => rfl, rfl⟩

/-- Only block g, and what is new, has turned. -/
abbrev Only (g : Nat) (w w' : World) : Prop := w.grownBy w' (some g)
theorem Only.refl (g : Nat) (w : World) : Only g w w := World.grownBy.refl w _
theorem Only.cell {g : Nat} {w w' : World} (h : Only g w w') {p : Addr} {v : Value} (hc : w.cell? p = some v) (hne : p.block ≠ g) : w'.cell? p = some v :=
  (World.cell?_of_block (h.block p.block (cell_lt hc) (fun e => hne (by injection e)))).trans hc
theorem Only.drewN {g : Nat} {a w : World} (h : Only g a w) (n : Nat) : Only g a (w.drewN n) := ⟨h.os, h.tape, h.output, h.size, h.block⟩
theorem Only.set_ {g : Nat} {a w : World} (h : Only g a w) (i : Nat) (u : Value) : Only g a (w.setCell ⟨g, i, none⟩ u) :=
  ⟨h.os, h.tape, h.output, by simpa [World.setCell] using h.size, fun i hi hne => (Below.heap_setCell w _ u i (by rintro rfl; exact hne rfl)).trans (h.block i hi hne)⟩
theorem Only.trans' {g : Nat} {a b c : World} (h : Only g a b) (k : Only g b c) : Only g a c := World.grownBy.trans h k
/-- A block that is new does not count. -/
theorem Only.ext {g : Nat} {a b w : World} (e : Ext a b) (h : Only g b w) (hg : a.heap.size ≤ g) : Ext a w :=
  ⟨h.os.trans e.os, h.tape.trans e.tape, h.output.trans e.output, Nat.le_trans e.size h.size, fun k hk => (h.block k (Nat.lt_of_lt_of_le hk e.size) (fun ee => by injection ee with ee; omega)).trans (e.block k hk)⟩

/-- The first words of a block overwritten. -/
def wv (x : Nat) : Value := .int .u64 (x : Int)
def putw (cs : List Value) (ds : List Nat) : List Value := ds.map wv ++ cs.drop ds.length
theorem putw_nil (cs : List Value) : putw cs [] = cs := rfl
theorem putw_length (cs : List Value) (ds : List Nat) (h : ds.length ≤ cs.length) : (putw cs ds).length = cs.length := by simp [putw]; omega
theorem putw_set (cs : List Value) (ds : List Nat) (d : Nat) (h : ds.length < cs.length) : (putw cs ds).set ds.length (wv d) = putw cs (ds ++ [d]) := by
  unfold putw
  rw [List.set_append_right _ _ (by simp)]
  simp only [List.length_map, Nat.sub_self, List.map_append, List.map_cons, List.map_nil, List.append_assoc, List.length_append, List.length_cons, List.length_nil]
  rw [List.drop_eq_getElem_cons h, List.set_cons_zero]
  rfl
theorem putw_get (cs : List Value) (ds : List Nat) (j : Nat) (h : j < ds.length) : (putw cs ds)[j]? = some (wv ds[j]) := by
  unfold putw
  rw [List.getElem?_append_left (by simpa using h)]
  simp [h]
theorem natOf_append (xs ys : List Nat) : natOf (xs ++ ys) = natOf xs + B64 ^ xs.length * natOf ys := by
  induction xs with
  | nil => simp [natOf]
  | cons x xs ih => simp only [List.cons_append, natOf, ih, List.length_cons, Nat.pow_succ, Nat.mul_add, Nat.add_assoc]; congr 2; rw [← Nat.mul_assoc, Nat.mul_comm B64]
theorem natOf_snoc (xs : List Nat) (x : Nat) : natOf (xs ++ [x]) = natOf xs + B64 ^ xs.length * x := by rw [natOf_append, natOf_one]
theorem natOf_take_succ (xs : List Nat) (k : Nat) (h : k < xs.length) : natOf (xs.take (k + 1)) = natOf (xs.take k) + B64 ^ k * xs[k] := by
  rw [List.take_succ_eq_append_getElem h, natOf_snoc, List.length_take, Nat.min_eq_left (by omega)]

theorem Blk.old {w : World} {g : Nat} {t : TypeId} {cs : List Value} (h : Blk w g t cs) (i : Nat) (hi : i < cs.length) : ∃ v, w.cell? ⟨g, i, none⟩ = some v := ⟨_, (h.cell i).trans (List.getElem?_eq_getElem hi)⟩
theorem Blk.wcell {w : World} {g : Nat} {t : TypeId} {cs : List Value} {ds : List Nat} (h : Blk w g t (putw cs ds)) (j : Nat) (hj : j < ds.length) : w.cell? ⟨g, j, none⟩ = some (.int .u64 (ds[j] : Int)) :=
  (h.cell j).trans (putw_get cs ds j hj)

theorem natOf_lt (ds : List Nat) (h : ∀ d ∈ ds, d < B64) : natOf ds < B64 ^ ds.length := by
  induction ds with
  | nil => simp [natOf]
  | cons d ds ih =>
    have h1 := ih (fun x hx => h x (List.mem_cons_of_mem _ hx))
    have h2 := h d (List.mem_cons_self)
    have h3 : B64 * (natOf ds + 1) ≤ B64 * B64 ^ ds.length := Nat.mul_le_mul_left _ h1
    simp only [natOf, List.length_cons, Nat.pow_succ, Nat.mul_comm (B64 ^ ds.length)]
    rw [Nat.mul_add] at h3
    omega
theorem take_getElem {α : Type} {es ws : List α} (h : es = ws.take es.length) (j : Nat) (hj : j < es.length) : ∃ hj', es[j] = ws[j]'hj' := by
  have hl : es.length ≤ ws.length := by
    have := congrArg List.length h
    simp only [List.length_take] at this; omega
  refine ⟨by omega, ?_⟩
  have : es[j]? = ws[j]? := by
    have e : (ws.take es.length)[j]? = ws[j]? := by rw [List.getElem?_take, if_pos hj]
    rw [← e, ← h]
  rw [List.getElem?_eq_getElem hj, List.getElem?_eq_getElem (by omega)] at this
  exact Option.some.inj this

theorem natOf_split (xs : List Nat) (k : Nat) (h : k < xs.length) : natOf xs = natOf (xs.take k) + B64 ^ k * (xs[k] + B64 * natOf (xs.drop (k + 1))) := by
  conv => lhs; rw [← List.take_append_drop k xs, natOf_append, List.drop_eq_getElem_cons h, natOf, List.length_take, Nat.min_eq_left (by omega)]
theorem natOf_lt_at {xs ys : List Nat} (hl : xs.length = ys.length) (k : Nat) (h : k < xs.length) (hd : xs.drop (k + 1) = ys.drop (k + 1)) (hb : ∀ x ∈ xs, x < B64) (hlt : xs[k] < ys[k]'(by omega)) : natOf xs < natOf ys := by
  rw [natOf_split xs k h, natOf_split ys k (by omega), hd]
  have h1 := natOf_lt (xs.take k) (fun x hx => hb x (List.mem_of_mem_take hx))
  rw [List.length_take, Nat.min_eq_left (by omega)] at h1
  have h2 : B64 ^ k * (xs[k] + B64 * natOf (ys.drop (k + 1)) + 1) ≤ B64 ^ k * (ys[k]'(by omega) + B64 * natOf (ys.drop (k + 1))) := Nat.mul_le_mul_left _ (by omega)
  rw [Nat.mul_add, Nat.mul_one] at h2
  omega
theorem natOf_ge {ys : List Nat} (hN : Norm ys) (n : Nat) (hn : ys.length = n + 1) : B64 ^ n ≤ natOf ys := by
  rw [natOf_split ys n (by omega), List.drop_of_length_le (by omega)]
  have : ys[n] ≠ 0 := hN _ (by rw [List.getLast?_eq_getElem?, show ys.length - 1 = n by omega]; exact List.getElem?_eq_getElem (by omega))
  have h1 : B64 ^ n * 1 ≤ B64 ^ n * (ys[n] + B64 * natOf []) := Nat.mul_le_mul_left _ (by omega)
  omega
theorem natOf_lt_len {xs ys : List Nat} (hN : Norm ys) (hb : ∀ x ∈ xs, x < B64) (h : xs.length < ys.length) : natOf xs < natOf ys := by
  have h1 := natOf_lt xs hb
  have h2 := natOf_ge hN (ys.length - 1) (by omega)
  have h3 : B64 ^ xs.length ≤ B64 ^ (ys.length - 1) := Nat.pow_le_pow_right B64_pos (by omega)
  omega
theorem len_le_one {ws : List Nat} (hN : Norm ws) (h : natOf ws < B64) : ws.length ≤ 1 := by
  rcases Nat.lt_or_ge 1 ws.length with h1 | h1
  · have h2 := natOf_ge hN (ws.length - 1) (by omega)
    have h3 : B64 ^ 1 ≤ B64 ^ (ws.length - 1) := Nat.pow_le_pow_right B64_pos (by omega)
    rw [Nat.pow_one] at h3
    omega
  · exact h1
theorem nil_iff {ws : List Nat} (hN : Norm ws) : natOf ws = 0 ↔ ws = [] := by
  constructor
  · intro h
    rcases Nat.eq_zero_or_pos ws.length with h1 | h1
    · exact List.eq_nil_of_length_eq_zero h1
    · have h2 := natOf_ge hN (ws.length - 1) (by omega)
      have h3 : 0 < B64 ^ (ws.length - 1) := Nat.pow_pos B64_pos
      omega
  · rintro rfl; rfl

/-- -1, 0 or 1. -/
def cmpZ (a b : Int) : Int := if a < b then -1 else if b < a then 1 else 0

theorem dr0 (w : World) : ∃ n, w = w.drewN n := ⟨0, rfl⟩
theorem dr1 (w : World) (a : Nat) : ∃ n, w.drewN a = w.drewN n := ⟨a, rfl⟩
theorem dr2 (w : World) (a b : Nat) : ∃ n, (w.drewN a).drewN b = w.drewN n := ⟨_, World.drewN_drewN _ _ _⟩
theorem dr3 (w : World) (a b c : Nat) : ∃ n, ((w.drewN a).drewN b).drewN c = w.drewN n := by simp only [World.drewN_drewN]; exact ⟨_, rfl⟩
theorem dr4 (w : World) (a b c d : Nat) : ∃ n, (((w.drewN a).drewN b).drewN c).drewN d = w.drewN n := by simp only [World.drewN_drewN]; exact ⟨_, rfl⟩

/-- A receiver has been given the value z; only its record, and what is new, has turned. -/
def RetInto (b : Nat) (z : Int) (w : World) (e : Ending) (w' : World) : Prop :=
  e = .returned (.pointer (some ⟨b, 0, none⟩)) ∧ BigAt w' b z ∧ Only b w w'
theorem Only.of_ext {g : Nat} {w w' : World} (h : Ext w w') : Only g w w' := ⟨h.os, h.tape, h.output, h.size, fun i hi _ => h.block i hi⟩
theorem Only.block' {g i : Nat} {w w' : World} {t : TypeId} {cs : List Value} (h : Only g w w') (hb : Blk w i t cs) (hne : i ≠ g) : Blk w' i t cs := (h.block i hb.lt (fun e => hne (by injection e))).trans hb
theorem Words.only {w w' : World} {A : Option Addr} {ws : List Nat} {g : Nat} (h : Words w A ws) (e : Only g w w') (hg : ∀ a, A = some a → ws ≠ [] → a.block ≠ g) : Words w' A ws :=
  ⟨h.1, fun hn => by
    obtain ⟨b, o, hA, ⟨cs, hk⟩, hc⟩ := h.2 hn
    have hb : b ≠ g := hg _ hA hn
    exact ⟨b, o, hA, ⟨cs, e.block' hk hb⟩, fun j hj => e.cell (hc j hj) hb⟩⟩
theorem Words.lt {w : World} {a : Addr} {ws : List Nat} (h : Words w (some a) ws) (hn : ws ≠ []) : a.block < w.heap.size := by
  obtain ⟨b, o, e, hc⟩ := h.get hn
  injection e with e; subst e
  have hl : 0 < ws.length := List.length_pos_iff.2 hn
  exact cell_lt (hc 0 hl)

theorem Ext.undrew {w w' : World} (h : Ext w.drew w') : Ext w w' := ⟨h.os, h.tape, h.output, h.size, h.block⟩
theorem Ext.undrewN {w w' : World} {n : Nat} (h : Ext (w.drewN n) w') : Ext w w' := ⟨h.os, h.tape, h.output, h.size, h.block⟩

theorem set_far {w : World} {p q : Addr} {u v : Value} (h : w.cell? q = some v) (hne : q.block ≠ p.block) : (w.setCell p u).cell? q = some v :=
  (World.cell?_of_block (Below.heap_setCell w p u q.block hne)).trans h

theorem words_ne {w : World} {a : Addr} {ws : List Nat} {b : Nat} {t : TypeId} {cs : List Value} (h : Words w (some a) ws) (hn : ws ≠ []) (hb : Blk w b t cs) (ht : 138 ≠ t := by decide) : a.block ≠ b := by
  obtain ⟨g, o, ha, ⟨cs', hk⟩, _⟩ := h.2 hn
  injection ha with ha; subst ha
  exact hk.ne hb ht
theorem Words.set_ {w : World} {A : Option Addr} {ws : List Nat} {b : Nat} (h : Words w A ws) (hb : ∀ a, A = some a → ws ≠ [] → a.block ≠ b) (i : Nat) (u : Value) : Words (w.setCell ⟨b, i, none⟩ u) A ws :=
  h.only ((Only.refl b w).set_ i u) hb
theorem bigVal_congr {neg : Bool} {ws ws' : List Nat} (h : natOf ws' = natOf ws) : bigVal neg ws = bigVal neg ws' := by unfold bigVal; rw [h]
theorem nil_congr {ws ws' : List Nat} (hN : Norm ws) (_ : Norm ws') (h : natOf ws' = natOf ws) (e : ws' = []) : ws = [] := (nil_iff hN).1 (by rw [← h, e]; rfl)

/-- A big integer stays while a block of another kind is written. -/
theorem BigAt.only {w w' : World} {b : Nat} {z : Int} {g : Nat} {t : TypeId} {cs : List Value} (h : BigAt w b z) (e : Only g w w') (hb : Blk w g t cs) (h1 : 138 ≠ t := by decide) (h2 : 130 ≠ t := by decide) : BigAt w' b z := by
  obtain ⟨A, c, ws, neg, hk, hw, hr⟩ := h
  exact ⟨A, c, ws, neg, e.block' hk (hk.ne hb h2), hw.only e (by intro a ha hn; subst ha; exact words_ne hw hn hb h1), hr⟩
theorem BigAt.set_ {w : World} {b : Nat} {z : Int} {g : Nat} {t : TypeId} {cs : List Value} (h : BigAt w b z) (hb : Blk w g t cs) (i : Nat) (u : Value) (h1 : 138 ≠ t := by decide) (h2 : 130 ≠ t := by decide) : BigAt (w.setCell ⟨g, i, none⟩ u) b z :=
  h.only ((Only.refl g w).set_ i u) hb h1 h2
/-- A receiver that was new, given a value: what was there stands. -/
theorem ext_of_only {a w w' : World} {g : Nat} (e : Ext a w) (h : Only g w w') (hg : a.heap.size ≤ g) : Ext a w' := Only.ext e h hg

end Go.Proofs.YtagfbefgcijegaaGreatDoor
