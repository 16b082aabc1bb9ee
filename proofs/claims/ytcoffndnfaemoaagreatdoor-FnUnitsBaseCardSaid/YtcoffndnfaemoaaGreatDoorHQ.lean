/-
  A registry of denominations in memory: its units in a map, its base; looked up, stored into.
  The registry's own functions: a name registered, its unit, the base.
  The registry asked: a name's unit, the base.
  Rows of a registry's steps and of their answers in memory.
  impl.unitStep at the steps of the kinds 0, 1, 3.
  impl.Units over steps of the kinds 0, 1, 3: the answers are those of the plain registry.
  The laws' rateIs and rateAwake.
-/
import Derived.Test.YtcoffndnfaemoaaGreatDoorGV
import Derived.Test.YtcoffndnfaemoaaGreatDoorGR
import Derived.Test.YtcoffndnfaemoaaGreatDoorGP
import Derived.Test.YtcoffndnfaemoaaGreatDoorGE
import Derived.Maps.OwnSet
import Derived.BigQuiet
import Derived.Deep.QuietTactic
import Derived.Deep.DeepCutAuto
import Derived.BigRegion
import Derived.Deep.RegionHeld3
import Derived.Test.YtcoffndnfaemoaaGreatDoorGT
import Derived.Test.YtcoffndnfaemoaaGreatDoorGQ
namespace Go.Proofs.YtcoffndnfaemoaaGreatDoor
open Go Go.RowKit Go.Maps

/-- The unit of a name among these. -/
def unitOf (U : List (ByteArray × Int)) (s : ByteArray) : Option Int := (U.find? fun x => decide (x.1 = s)).map (·.2)
theorem unitOf_nil (s : ByteArray) : unitOf [] s = none := rfl
theorem unitOf_snoc {U : List (ByteArray × Int)} {s : ByteArray} {z : Int} (h : unitOf U s = none) (t : ByteArray) : unitOf (U ++ [(s, z)]) t = if t = s then some z else unitOf U t := by
  unfold unitOf at h ⊢
  rw [List.find?_append]
  by_cases e : t = s
  · subst e
    have hn : U.find? (fun x => decide (x.1 = t)) = none := by simpa using h
    rw [hn, if_pos rfl]; simp
  · rw [if_neg e]
    cases hf : U.find? (fun x => decide (x.1 = t))
    · have : ¬ s = t := fun k => e k.symm
      simp [this]
    · rfl
/-- A decimal whose number lies at block b. -/
abbrev ptrV (b : Nat) : Value := .agg #[.pointer (some ⟨b, 0, none⟩)]
abbrev ptr0 : Value := .agg #[.pointer none]
/-- The map of block M holds these units. -/
def UMap (W : World) (M : Nat) (U : List (ByteArray × Int)) : Prop :=
  ∃ D : DataW Value, W.ownsMap Tryz.prog 9 asV M U.length D ∧ (∀ s, has D (sk s) = (unitOf U s).isSome) ∧ ∀ s z, unitOf U s = some z → ∃ b, (∀ q, D.atKey (sk s) q = .held (ptrV b)) ∧ BigK W b z
theorem UMap.lt {W : World} {M : Nat} {U : List (ByteArray × Int)} (h : UMap W M U) : M < W.heap.size := by
  obtain ⟨D, h, _⟩ := h; exact h.lt
theorem UMap.step {w w' : World} {M : Nat} {U : List (ByteArray × Int)} (h : UMap w M U) (e : w'.heap[M]? = w.heap[M]?) (k : ∀ b z, BigK w b z → BigK w' b z) : UMap w' M U := by
  obtain ⟨D, hM, hH, hR⟩ := h
  exact ⟨D, seenOwn hM e, hH, fun s z hs => by obtain ⟨b, h1, h2⟩ := hR s z hs; exact ⟨b, h1, k b z h2⟩⟩
theorem UMap.ext {w w' : World} {M : Nat} {U : List (ByteArray × Int)} (h : UMap w M U) (e : Ext w w') : UMap w' M U := h.step (e.block M h.lt) (fun _ _ k => k.ext e)
/-- A store into a block of another kind. -/
theorem UMap.set_ {w : World} {M R : Nat} {U : List (ByteArray × Int)} {t : TypeId} {cs : List Value} (h : UMap w M U) (hR : Blk w R t cs) (hne : M ≠ R) (i : Nat) (u : Value) (h1 : 167 ≠ t := by decide) (h2 : 126 ≠ t := by decide) : UMap (w.setCell ⟨R, i, none⟩ u) M U :=
  h.step (Below.heap_setCell w _ u M hne) (fun _ _ k => k.set_ hR i u h1 h2)
theorem umap_made (W : World) : UMap (W.alloc (.map #[] 0)) W.heap.size [] :=
  ⟨.map [], World.ownsMap_made _ _ _ _, fun s => by simp [has, unitOf_nil], fun s z h => by cases h⟩
theorem makeMapU (W : World) : (Instr.makeMap 139 none).run Tryz.prog W = .ok (.map (some W.heap.size)) (W.alloc (.map #[] 0)) := by
  simp [Instr.makeMap, Result.andThen]
theorem zeroDecV (w : World) : (zeroValue 84).run Tryz.prog w = .ok ptr0 w := by kernel_rfl
theorem umap_at {U : List (ByteArray × Int)} {D : DataW Value} (hH : ∀ s, has D (sk s) = (unitOf U s).isSome) (s : ByteArray) {v : Value} {ps : List MemPlace} (hv : asV v = some (D.atKey (sk s) (.held ptr0), ps)) :
    (unitOf U s = none → v = ptr0) ∧ ∀ b, (∀ q, D.atKey (sk s) q = .held (ptrV b)) → v = ptrV b := by
  unfold asV at hv; injection hv with hv; injection hv with h1 _
  refine ⟨fun hn => ?_, fun b hb => ?_⟩
  · have hh : has D (sk s) = false := by rw [hH s, hn]; rfl
    rw [atKey_of_not_has hh] at h1
    injection h1
  · rw [hb] at h1; injection h1
set_option maxRecDepth 100000 in
/-- A look-up that asks whether there is one. -/
theorem umap_look_ok {W : World} {M : Nat} {U : List (ByteArray × Int)} (h : UMap W M U) (s : ByteArray) (hs : s.size ≤ maxLen) :
    (unitOf U s = none → (Instr.lookup 139 (.map (some M)) (.string s) true).run Tryz.prog W = .ok (.tuple #[ptr0, .bool false]) W) ∧
    ∀ z, unitOf U s = some z → ∃ b, (Instr.lookup 139 (.map (some M)) (.string s) true).run Tryz.prog W = .ok (.tuple #[ptrV b, .bool true]) W ∧ BigK W b z := by
  obtain ⟨D, hM, hH, hR⟩ := h
  obtain ⟨v, ps, hr, hv⟩ := hM.look_ok seenK Tryz.underlying139 (zeroDecV W) (show asV ptr0 = some (.held ptr0, []) from rfl) (keyOf_sk Tryz.underlying9 hs)
  obtain ⟨h0, h1⟩ := umap_at hH s hv
  rw [hr]
  refine ⟨fun hn => ?_, fun z hz => ?_⟩
  · rw [h0 hn, hH s, hn]; rfl
  · obtain ⟨b, hb, hk⟩ := hR s z hz
    exact ⟨b, by rw [h1 b hb, hH s, hz]; rfl, hk⟩
set_option maxRecDepth 100000 in
/-- A look-up of a name that is there. -/
theorem umap_look {W : World} {M : Nat} {U : List (ByteArray × Int)} (h : UMap W M U) (s : ByteArray) (hs : s.size ≤ maxLen) {z : Int} (hz : unitOf U s = some z) :
    ∃ b, (Instr.lookup 139 (.map (some M)) (.string s) false).run Tryz.prog W = .ok (ptrV b) W ∧ BigK W b z := by
  obtain ⟨D, hM, hH, hR⟩ := h
  obtain ⟨v, ps, hr, hv⟩ := hM.lookup seenK Tryz.underlying139 (zeroDecV W) (show asV ptr0 = some (.held ptr0, []) from rfl) (keyOf_sk Tryz.underlying9 hs)
  obtain ⟨h0, h1⟩ := umap_at hH s hv
  obtain ⟨b, hb, hk⟩ := hR s z hz
  exact ⟨b, by rw [hr, h1 b hb], hk⟩
/-- Numbers stay while a map is stored into. -/
theorem BigK.mapped {w w' : World} {M b : Nat} {z : Int} {es : Array MapEntry} {clock : Nat} (h : BigK w b z) (hM : w.heap[M]? = some (.map es clock)) (e : Only M w w') : BigK w' b z := by
  obtain ⟨g, c, hg, A, ws, neg, hb, hv, hr⟩ := h
  have hne : ∀ (i : Nat) (t : TypeId) (cs : List Value), Blk w i t cs → i ≠ M := by
    rintro i t cs hi rfl
    unfold Blk at hi
    rw [hM] at hi; cases hi
  refine ⟨g, c, hg, A, ws, neg, e.block' hb (hne _ _ _ hb), hv.only e (fun hA => ?_), hr⟩
  rcases hv with ⟨h, _⟩ | ⟨_, _, _, full, hf, _⟩
  · exact absurd h hA
  · exact hne _ _ _ hf.1
set_option maxRecDepth 100000 in
/-- A unit is stored for a name that has none. -/
theorem umap_put {W : World} {M : Nat} {U : List (ByteArray × Int)} (h : UMap W M U) (s : ByteArray) (hs : s.size ≤ maxLen) {b : Nat} {z : Int} (hb : BigK W b z) (hn : unitOf U s = none) (hd : U.length < 1000000) :
    ∃ W', (Instr.mapUpdate 139 (.map (some M)) (.string s) (ptrV b)).run Tryz.prog W = .ok () W' ∧ UMap W' M (U ++ [(s, z)]) ∧ Only M W W' ∧ ∀ x y, BigK W x y → BigK W' x y := by
  obtain ⟨D, hM, hH, hR⟩ := h
  obtain ⟨W', hrun, hM', hg⟩ := hM.update seenK Tryz.underlying139 (by unfold maxLen; omega) (keyOf_sk Tryz.underlying9 hs) (show asV (ptrV b) = some (.held (ptrV b), []) from rfl)
  have hkey : WideAt.IsKeyLit (sk s) := trivial
  obtain ⟨es, clock, hes, _⟩ := id hM
  have hk : ∀ x y, BigK W x y → BigK W' x y := fun x y k => k.mapped hes hg
  refine ⟨W', hrun, ⟨D.put (sk s) (.held (ptrV b)), by simpa using hM', fun t => ?_, fun t y ht => ?_⟩, hg, hk⟩
  · rw [unitOf_snoc hn]
    by_cases e : t = s
    · subst e; rw [if_pos rfl, has_put_same hM.isMap hkey]; rfl
    · rw [if_neg e, has_put_other (fun k => e (sk_inj k)), hH t]
  · rw [unitOf_snoc hn] at ht
    by_cases e : t = s
    · subst e; rw [if_pos rfl] at ht; injection ht with ht; subst ht
      exact ⟨b, fun q => atKey_put_same hM.isMap hkey _ _, hk _ _ hb⟩
    · rw [if_neg e] at ht
      obtain ⟨b', h1, h2⟩ := hR t y ht
      exact ⟨b', fun q => by rw [atKey_put_other (fun k => e (sk_inj k))]; exact h1 q, hk _ _ h2⟩

/-- A registry told plainly. -/
structure Rg where
  U : List (ByteArray × Int)
  base : ByteArray
/-- The registry of block R, its map in block M; the base is registered, or there is none. -/
def RegM (W : World) (R M : Nat) (g : Rg) : Prop :=
  Blk W R 141 [.map (some M), .string g.base] ∧ M ≠ R ∧ UMap W M g.U ∧ g.base.size ≤ maxLen ∧ (g.base = ⟨#[]⟩ ∨ ∃ z, unitOf g.U g.base = some z)
theorem RegM.ext {w w' : World} {R M : Nat} {g : Rg} (h : RegM w R M g) (e : Ext w w') : RegM w' R M g := by
  obtain ⟨h1, h2, h3, h4⟩ := h
  exact ⟨h1.ext e, h2, h3.ext e, h4⟩
theorem RegM.drew {w : World} {R M : Nat} {g : Rg} (h : RegM w R M g) : RegM w.drew R M g := h
theorem regCells {W : World} {g : Nat} {T : TypeId} {u v : Value} (h : Blk W g T [u, v]) : W.cell? ⟨g, 0, none⟩ = some u ∧ W.cell? ⟨g, 1, none⟩ = some v ∧ g < W.heap.size :=
  ⟨(h.cell 0).trans rfl, (h.cell 1).trans rfl, h.lt⟩
/-- The registry stays while something grows in a block of another kind. -/
theorem RegM.step {w w' : World} {R M : Nat} {g : Rg} (h : RegM w R M g) (eR : w'.heap[R]? = w.heap[R]?) (eM : w'.heap[M]? = w.heap[M]?) (k : ∀ b z, BigK w b z → BigK w' b z) : RegM w' R M g := by
  obtain ⟨h1, h2, h3, h4⟩ := h
  exact ⟨eR.trans h1, h2, h3.step eM k, h4⟩
/-- The base of the registry is set. -/
theorem RegM.rebase {w : World} {R M : Nat} {g : Rg} (h : RegM w R M g) (s : ByteArray) (hs : s.size ≤ maxLen) {z : Int} (hz : unitOf g.U s = some z) : RegM (w.setCell ⟨R, 1, none⟩ (.string s)) R M ⟨g.U, s⟩ := by
  obtain ⟨h1, h2, h3, _⟩ := h
  exact ⟨h1.set_ 1 (.string s), h2, h3.set_ h1 h2 1 _, hs, Or.inr ⟨z, hz⟩⟩

/-- A name is registered: whether it could be, and the registry behind it. -/
def Rg.reg (g : Rg) (s : ByteArray) (z : Int) : Bool × Rg :=
  if denomB s = true ∧ unitOf g.U s = none then (true, ⟨g.U ++ [(s, z)], if g.base = ⟨#[]⟩ ∨ z < (unitOf g.U g.base).getD 0 then s else g.base⟩) else (false, g)
/-- A step over a registry, its cells. -/
structure St where
  kind : Int
  denom : ByteArray
  uw : Int
  uf : Int
  cs : ByteArray
  ca : Int
  ds : ByteArray
  dw : Int
  df : Int
  A : Option Addr
  n : Nat
  c : Nat
def St.cells (s : St) : List Value := [.int .i64 s.kind, .string s.denom, .int .i64 s.uw, .int .i64 s.uf, .string s.cs, .int .i64 s.ca, .string s.ds, .int .i64 s.dw, .int .i64 s.df, .slice s.A s.n s.c]
/-- A plain step: a kind, a name, a unit. -/
def St.plain (k : Int) (s : ByteArray) (x y : Int) : St := ⟨k, s, x, y, ⟨#[]⟩, 0, ⟨#[]⟩, 0, 0, none, 0, 0⟩
/-- An answer to a step of the kinds 0, 1, 3, its cells. -/
structure An where
  ok : Bool
  denom : ByteArray
  uw : Int
  uf : Int
def An.cells (a : An) : List Value := [.bool a.ok, .string a.denom, .int .i64 a.uw, .int .i64 a.uf, .string ⟨#[]⟩, .int .i64 0, .string ⟨#[]⟩, .int .i64 0, .int .i64 0, .slice none 0 0]
def Rg.unit (g : Rg) (s : ByteArray) : Option Int := if denomB s = true then unitOf g.U s else none
def Rg.step (g : Rg) (s : St) : An × Rg :=
  if s.kind = 0 then (if 0 < decV s.uw s.uf then (⟨(g.reg s.denom (decV s.uw s.uf)).1, ⟨#[]⟩, 0, 0⟩, (g.reg s.denom (decV s.uw s.uf)).2) else (⟨false, ⟨#[]⟩, 0, 0⟩, g))
  else if s.kind = 1 then (match g.unit s.denom with | some z => (⟨true, ⟨#[]⟩, Int.tdiv z T18, Int.tmod z T18⟩, g) | none => (⟨false, ⟨#[]⟩, 0, 0⟩, g))
  else (⟨decide (g.base ≠ ⟨#[]⟩), g.base, 0, 0⟩, g)
/-- The registry behind steps, and their answers. -/
def Rg.after (g : Rg) : List St → Rg
  | [] => g
  | s :: r => (g.step s).2.after r
def Rg.answers (g : Rg) : List St → List An
  | [] => []
  | s :: r => (g.step s).1 :: (g.step s).2.answers r
theorem Rg.after_snoc (g : Rg) (l : List St) (s : St) : g.after (l ++ [s]) = ((g.after l).step s).2 := by
  induction l generalizing g with
  | nil => rfl
  | cons a l ih => exact ih _
theorem Rg.answers_snoc (g : Rg) (l : List St) (s : St) : g.answers (l ++ [s]) = g.answers l ++ [((g.after l).step s).1] := by
  induction l generalizing g with
  | nil => rfl
  | cons a l ih => simp only [List.cons_append, Rg.answers, Rg.after, ih]
theorem Rg.answers_length (g : Rg) (l : List St) : (g.answers l).length = l.length := by
  induction l generalizing g with
  | nil => rfl
  | cons a l ih => simp only [Rg.answers, List.length_cons, ih]
/-- What holds of the units of a registry behind some steps. -/
def Rg.few (g : Rg) (n : Nat) : Prop := g.U.length ≤ n ∧ ∀ s z, unitOf g.U s = some z → FitT z
theorem Rg.reg_few {g : Rg} {n : Nat} (h : g.few n) (s : ByteArray) {z : Int} (hz : FitT z) : (g.reg s z).2.few (n + 1) := by
  unfold Rg.reg
  by_cases e : denomB s = true ∧ unitOf g.U s = none
  · rw [if_pos e]
    refine ⟨by have := h.1; simpa using this, fun t y ht => ?_⟩
    rw [unitOf_snoc e.2] at ht
    by_cases k : t = s
    · rw [if_pos k] at ht; injection ht with ht; subst ht; exact hz
    · rw [if_neg k] at ht; exact h.2 t y ht
  · rw [if_neg e]; exact ⟨Nat.le_succ_of_le h.1, h.2⟩
theorem Rg.step_few {g : Rg} {n : Nat} (h : g.few n) (s : St) (hz : s.kind = 0 → FitT (decV s.uw s.uf)) : (g.step s).2.few (n + 1) := by
  have hg : g.few (n + 1) := ⟨Nat.le_succ_of_le h.1, h.2⟩
  unfold Rg.step
  by_cases e : s.kind = 0
  · rw [if_pos e]
    by_cases k : 0 < decV s.uw s.uf
    · rw [if_pos k]; exact Rg.reg_few h _ (hz e)
    · rw [if_neg k]; exact hg
  · rw [if_neg e]
    by_cases e1 : s.kind = 1
    · rw [if_pos e1]; cases g.unit s.denom <;> exact hg
    · rw [if_neg e1]; exact hg
end Go.Proofs.YtcoffndnfaemoaaGreatDoor

namespace Go.Proofs.YtcoffndnfaemoaaGreatDoor
open Go Go.RowKit

/-- A new error is handed back, or none; the registry behind it. -/
def RetReg (R M : Nat) (ok : Bool) (g : Rg) (w : World) (e : Ending) (w' : World) : Prop :=
  ∃ v, e = .returned v ∧ ((ok = true ∧ v = .nilIface) ∨ (ok = false ∧ ∃ q, v = .iface 189 (.pointer (some ⟨q, 0, none⟩)))) ∧ RegM w' R M g ∧ Only2 R M w w'
theorem Ext.two {R M : Nat} {w w' : World} (h : Ext w w') : Only2 R M w w' := ⟨h.os, h.tape, h.output, h.size, fun i hi _ _ => h.block i hi⟩
abbrev dAlready : ByteArray := ⟨#[100, 101, 110, 111, 109, 32, 97, 108, 114, 101, 97, 100, 121, 32, 114, 101, 103, 105, 115, 116, 101, 114, 101, 100]⟩
theorem size63 {s : ByteArray} (h : s.size ≤ maxLen) : s.size ≤ 9223372036854775807 := by unfold maxLen at h; omega


set_option maxRecDepth 100000 in
theorem tRegBad (R M b : Nat) (g : Rg) (s : ByteArray) (w : World) (hR : RegM w R M g) (hs : s.size ≤ maxLen) (hd : denomB s = false) :
    Calls Tryz.prog 102 #[.pointer (some ⟨R, 0, none⟩), .string s, ptrV b] w (RetReg R M false g w) := by
  have HV := Lib.hid (dValidBad (size63 hs) hd)
  have HR := Lib.hid hR
  clear hR hs hd
  go_enter Tryz.func102, Tryz.ntmps102
  go_wp2_with (fail)
  go_at_call 66
  refine (HV.out _).mono ?_
  rintro e w1 ⟨q, rfl, hB, hE⟩
  have HE := Lib.hid ((Ext.alloc' w (decBox b)).trans' hE)
  clear hE hB
  go_wp2
  go_ret
  exact ⟨_, rfl, Or.inr ⟨rfl, q, rfl⟩, HR.out.ext HE.out, HE.out.two⟩

set_option maxRecDepth 100000 in
theorem tRegHas (R M b : Nat) (g : Rg) (s : ByteArray) (z : Int) (w : World) (hR : RegM w R M g) (hs : s.size ≤ maxLen) (hd : denomB s = true) (hz : unitOf g.U s = some z) :
    Calls Tryz.prog 102 #[.pointer (some ⟨R, 0, none⟩), .string s, ptrV b] w (RetReg R M false g w) := by
  have HV := Lib.hid (dValidGood (size63 hs) hd)
  have HR := Lib.hid hR
  obtain ⟨hK, hne, hU, _⟩ := hR.ext (Ext.alloc' w (decBox b))
  obtain ⟨c0, c1, lR⟩ := regCells hK
  obtain ⟨b0, hlook, _⟩ := (umap_look_ok hU s hs).2 z hz
  clear hR hs hd hz hK hU
  go_enter Tryz.func102, Tryz.ntmps102
  go_wp2_with (fail)
  go_at_call 66
  refine (HV.out _).mono ?_
  rintro e w1 ⟨rfl, h1⟩
  obtain rfl := h1
  go_wp2_with (fail)
  go_at_call 112
  refine (eNew dAlready _).mono ?_
  rintro e w2 ⟨q, rfl, hB, hE⟩
  have HE := Lib.hid ((ext2 w (decBox b) (decBox b0)).trans' hE)
  clear hE hB
  go_wp2
  go_ret
  exact ⟨_, rfl, Or.inr ⟨rfl, q, rfl⟩, HR.out.ext HE.out, HE.out.two⟩

theorem base_ne {s : ByteArray} (h : s ≠ ⟨#[]⟩) : (s.toList == []) = false := by
  have e : (⟨#[]⟩ : ByteArray).toList = [] := by rw [ByteArray.toList_eq]
  rw [← e, key_beq]; simpa using h
set_option maxRecDepth 100000 in
theorem tRegNew0 (R M b : Nat) (U : List (ByteArray × Int)) (s : ByteArray) (z : Int) (w : World) (hR : RegM w R M ⟨U, ⟨#[]⟩⟩) (hs : s.size ≤ maxLen) (hd : denomB s = true) (hz : unitOf U s = none) (hb : BigK w b z) (hn : U.length < 1000000) :
    Calls Tryz.prog 102 #[.pointer (some ⟨R, 0, none⟩), .string s, ptrV b] w (RetReg R M true ⟨U ++ [(s, z)], s⟩ w) := by
  have HV := Lib.hid (dValidGood (size63 hs) hd)
  obtain ⟨hK1, hne, hU1, _⟩ := hR.ext (Ext.alloc' w (decBox b))
  obtain ⟨c0, c1, lR⟩ := regCells hK1
  have hlook := (umap_look_ok hU1 s hs).1 hz
  obtain ⟨W, hW⟩ : ∃ W, W = (w.alloc (decBox b)).alloc (.cells #[.pointer none] 84) := ⟨_, rfl⟩
  have hE : Ext w W := by rw [hW]; exact ext2 _ _ _
  have hX : Blk W w.heap.size 84 [.pointer (some ⟨b, 0, none⟩)] := by rw [hW]; exact (blk_new0 w 84 [.pointer (some ⟨b, 0, none⟩)]).alloc _
  obtain ⟨hK, _, hU, hbs, hbase⟩ := hR.ext hE
  obtain ⟨w2, hput, hU2, hO, hk⟩ := umap_put (W := W.drew) hU s hs ((hb.ext hE).ext (Ext.drewN' W 1)) hz hn
  have hK2 : Blk w2 R 141 [.map (some M), .string ⟨#[]⟩] := hO.block' hK (fun e => hne e.symm)
  have p0 : W.cell? ⟨R, 0, none⟩ = some (.map (some M)) := (hK.cell 0).trans rfl
  have p1 : W.cell? ⟨w.heap.size, 0, none⟩ = some (.pointer (some ⟨b, 0, none⟩)) := (hX.cell 0).trans rfl
  obtain ⟨d0, d1, lR2⟩ := regCells hK2
  have hf := hK2.frozen 1
  have hus : unitOf (U ++ [(s, z)]) s = some z := by rw [unitOf_snoc hz, if_pos rfl]
  have HS2 := Lib.hid (show ∀ n, RegM ((w2.drewN n).setCell ⟨R, 1, none⟩ (.string s)) R M ⟨U ++ [(s, z)], s⟩ from fun n => RegM.rebase (g := ⟨U ++ [(s, z)], ⟨#[]⟩⟩) ⟨hK2, hne, hU2, hbs, Or.inl rfl⟩ s hs hus)
  have HO2 := Lib.hid (show ∀ n, Only2 R M w ((w2.drewN n).setCell ⟨R, 1, none⟩ (.string s)) from fun n => ((hE.two.trans' ((Ext.drewN' W 1).two)).trans' (hO.two : Only2 R M W.drew w2)).trans' (((Ext.drewN' w2 n).two).set_ 1 _))
  have HWW := Lib.hid hW
  clear hW hs hd hz hK hK1 hU hU1 hb hn hK2 hU2 hk hO hbase hbs hus hR hE hX
  go_enter Tryz.func102, Tryz.ntmps102
  go_wp2_with (fail)
  go_at_call 66
  refine (HV.out _).mono ?_
  rintro e w1 ⟨rfl, h1⟩
  obtain rfl := h1
  go_upto_region 7 with fail
  rw [← HWW.out]
  clear c0 c1 hlook lR
  go_region
  go_upto_region 8 with fail
  go_quiet (fail)
  go_wp2
  go_ret
  exact ⟨_, rfl, Or.inl ⟨rfl, rfl⟩, HS2.out _, HO2.out _⟩

set_option maxRecDepth 100000 in
set_option maxHeartbeats 1000000 in
theorem tRegNew1 (R M b : Nat) (g : Rg) (s : ByteArray) (z : Int) (w : World) (hR : RegM w R M g) (hs : s.size ≤ maxLen) (hd : denomB s = true) (hz : unitOf g.U s = none) (hb : BigK w b z) (hn : g.U.length < 1000000) (h0 : g.base ≠ ⟨#[]⟩) :
    Calls Tryz.prog 102 #[.pointer (some ⟨R, 0, none⟩), .string s, ptrV b] w
      (RetReg R M true ⟨g.U ++ [(s, z)], if g.base = ⟨#[]⟩ ∨ z < (unitOf g.U g.base).getD 0 then s else g.base⟩ w) := by
  have HV := Lib.hid (dValidGood (size63 hs) hd)
  obtain ⟨hK1, hne, hU1, _⟩ := hR.ext (Ext.alloc' w (decBox b))
  obtain ⟨c0, c1, lR⟩ := regCells hK1
  have hlook := (umap_look_ok hU1 s hs).1 hz
  obtain ⟨W, hW⟩ : ∃ W, W = (w.alloc (decBox b)).alloc (.cells #[.pointer none] 84) := ⟨_, rfl⟩
  have hE : Ext w W := by rw [hW]; exact ext2 _ _ _
  have hX : Blk W w.heap.size 84 [.pointer (some ⟨b, 0, none⟩)] := by rw [hW]; exact (blk_new0 w 84 [.pointer (some ⟨b, 0, none⟩)]).alloc _
  obtain ⟨hK, _, hU, hbs, hbase⟩ := hR.ext hE
  obtain ⟨w2, hput, hU2, hO, hk⟩ := umap_put (W := W.drew) hU s hs ((hb.ext hE).ext (Ext.drewN' W 1)) hz hn
  have hK2 : Blk w2 R 141 [.map (some M), .string g.base] := hO.block' hK (fun e => hne e.symm)
  have p0 : W.cell? ⟨R, 0, none⟩ = some (.map (some M)) := (hK.cell 0).trans rfl
  have p1 : W.cell? ⟨w.heap.size, 0, none⟩ = some (.pointer (some ⟨b, 0, none⟩)) := (hX.cell 0).trans rfl
  have hus : unitOf (g.U ++ [(s, z)]) s = some z := by rw [unitOf_snoc hz, if_pos rfl]
  obtain ⟨y, hy⟩ : ∃ y, unitOf g.U g.base = some y := hbase.resolve_left h0
  have hy2 : unitOf (g.U ++ [(s, z)]) g.base = some y := by
    rw [unitOf_snoc hz, if_neg (by rintro e; rw [e, hz] at hy; cases hy), hy]
  have hX2 : Blk w2 w.heap.size 84 [.pointer (some ⟨b, 0, none⟩)] := hO.block' hX (by
    have := hR.2.2.1.lt; omega)
  obtain ⟨d0, d1, lR2⟩ := regCells hK2
  have d2 : w2.cell? ⟨w.heap.size, 0, none⟩ = some (.pointer (some ⟨b, 0, none⟩)) := (hX2.cell 0).trans rfl
  have lX := hX2.lt
  have hbk := hk _ _ ((hb.ext hE).ext (Ext.drewN' W 1))
  have HRR := Lib.hid (show RegM w2 R M ⟨g.U ++ [(s, z)], g.base⟩ from ⟨hK2, hne, hU2, hbs, Or.inr ⟨y, hy2⟩⟩)
  have HOO := Lib.hid (show Only2 R M w w2 from (hE.two.trans' ((Ext.drewN' W 1).two)).trans' (hO.two : Only2 R M W.drew w2))
  have HS2 := Lib.hid (show ∀ w3, Ext w2 w3 → RegM (w3.setCell ⟨R, 1, none⟩ (.string s)) R M ⟨g.U ++ [(s, z)], s⟩ ∧ Only2 R M w (w3.setCell ⟨R, 1, none⟩ (.string s)) from fun w3 e => ⟨RegM.rebase (HRR.out.ext e) s hs hus, (HOO.out.trans' e.two).set_ 1 _⟩)
  have HF := Lib.hid (show ∀ w3, Ext w2 w3 → w3.frozen? ⟨R, 1, none⟩ = false ∧ ∃ v, w3.cell? ⟨R, 1, none⟩ = some v from fun w3 e => ⟨(hK2.ext e).frozen 1, _, ((hK2.ext e).cell 1).trans rfl⟩)
  obtain ⟨b1, hlk, hk1⟩ := umap_look (W := w2.drew) hU2 g.base hbs hy2
  have HL := Lib.hid (dLT b b1 z y w2.drew (hbk.ext (Ext.drewN' w2 1)) hk1)
  rw [hy, Option.getD_some]
  obtain ⟨r, hr⟩ : ∃ r, r = decide (z < y) := ⟨_, rfl⟩
  rw [← hr] at HL
  have hsel : (if g.base = ⟨#[]⟩ ∨ z < y then s else g.base) = if r = true then s else g.base := by rw [hr]; simp [h0]
  rw [hsel]
  have e0 := base_ne h0
  have HWW := Lib.hid hW
  clear hW hs hd hz hK hK1 hU hU1 hb hn hK2 hU2 hk hO hbase hbs hus hR hE hX hy hy2 hk1 hsel hr h0 hX2 hbk
  obtain ⟨B, hB⟩ : ∃ B, B = g.base := ⟨_, rfl⟩
  rw [← hB] at c1 d1 e0 hlk HRR ⊢
  clear hB
  cases r
  · go_enter Tryz.func102, Tryz.ntmps102
    go_wp2_with (fail)
    go_at_call 66
    refine (HV.out _).mono ?_
    rintro e w1 ⟨rfl, h1⟩
    obtain rfl := h1
    go_upto_region 7 with fail
    rw [← HWW.out]
    clear c0 c1 hlook lR
    go_region
    clear p0 p1 hput
    go_upto_region 8 with fail
    go_cut [49] (fun s49 wx => s49 = .bool false ∧ Ext w2 wx)
    case first =>
      go_region_held3 (fun w' => w'.cell? ⟨R, 0, none⟩ = some (.map (some M)) ∧ w'.cell? ⟨R, 1, none⟩ = some (.string B) ∧ w'.cell? ⟨w.heap.size, 0, none⟩ = some (.pointer (some ⟨b, 0, none⟩))) ((first | exact ⟨d0, d1, d2⟩ | exact ⟨HE3.out.cell' d0, HE3.out.cell' d1, HE3.out.cell' d2⟩)) ((go_at_call 137; refine HL.out.mono ?_; rintro e w3 ⟨rfl, hE⟩; have HE3 := Lib.hid (Ext.undrew hE); clear hE))
      all_goals (go_wp2_with fail; go_meet)
      all_goals exact ⟨rfl, HE3.out⟩
    case rest =>
      obtain ⟨rfl, hE⟩ := hcut
      have HE := Lib.hid hE
      obtain ⟨hf, v, hv⟩ := HF.out _ hE
      have hl := cell_lt hv
      clear d0 d1 d2 lR2 lX hlk hE
      go_wp2
      go_ret
      exact ⟨_, rfl, Or.inl ⟨rfl, rfl⟩, HRR.out.ext HE.out, HOO.out.trans' HE.out.two⟩
  · go_enter Tryz.func102, Tryz.ntmps102
    go_wp2_with (fail)
    go_at_call 66
    refine (HV.out _).mono ?_
    rintro e w1 ⟨rfl, h1⟩
    obtain rfl := h1
    go_upto_region 7 with fail
    rw [← HWW.out]
    clear c0 c1 hlook lR
    go_region
    clear p0 p1 hput
    go_upto_region 8 with fail
    go_cut [49] (fun s49 wx => s49 = .bool true ∧ Ext w2 wx)
    case first =>
      go_region_held3 (fun w' => w'.cell? ⟨R, 0, none⟩ = some (.map (some M)) ∧ w'.cell? ⟨R, 1, none⟩ = some (.string B) ∧ w'.cell? ⟨w.heap.size, 0, none⟩ = some (.pointer (some ⟨b, 0, none⟩))) ((first | exact ⟨d0, d1, d2⟩ | exact ⟨HE3.out.cell' d0, HE3.out.cell' d1, HE3.out.cell' d2⟩)) ((go_at_call 137; refine HL.out.mono ?_; rintro e w3 ⟨rfl, hE⟩; have HE3 := Lib.hid (Ext.undrew hE); clear hE))
      all_goals (go_wp2_with fail; go_meet)
      all_goals exact ⟨rfl, HE3.out⟩
    case rest =>
      obtain ⟨rfl, hE⟩ := hcut
      have HE := Lib.hid hE
      obtain ⟨hf, v, hv⟩ := HF.out _ hE
      have hl := cell_lt hv
      clear d0 d1 d2 lR2 lX hlk hE
      go_wp2
      go_ret
      exact ⟨_, rfl, Or.inl ⟨rfl, rfl⟩, (HS2.out _ HE.out).1, (HS2.out _ HE.out).2⟩
end Go.Proofs.YtcoffndnfaemoaaGreatDoor

namespace Go.Proofs.YtcoffndnfaemoaaGreatDoor
open Go Go.RowKit

/-- A unit, or none. -/
def RetGet (o : Option Int) (w : World) (e : Ending) (w' : World) : Prop :=
  ∃ b, e = .returned (.tuple #[ptrV b, .bool o.isSome]) ∧ (∀ z, o = some z → BigK w' b z) ∧ Ext w w'
set_option maxRecDepth 100000 in
theorem tGet (R M : Nat) (g : Rg) (s : ByteArray) (w : World) (hR : RegM w R M g) (hs : s.size ≤ maxLen) :
    Calls Tryz.prog 103 #[.pointer (some ⟨R, 0, none⟩), .string s] w (RetGet (g.unit s) w) := by
  obtain ⟨W, hW⟩ : ∃ W, W = w.alloc (.cells #[.pointer none] 84) := ⟨_, rfl⟩
  have EW := Lib.hid (show Ext w W by rw [hW]; exact ext1 _ _)
  have KW := Lib.hid (show Blk W w.heap.size 84 [.pointer none] by rw [hW]; exact blk_new0 w 84 [.pointer none])
  unfold Rg.unit
  by_cases hd : denomB s = true
  · rw [if_pos hd]
    have HV := Lib.hid (dValidGood (size63 hs) hd)
    obtain ⟨hK, hne, hU, hbs, hbase⟩ := hR.ext EW.out
    obtain ⟨c0, c1, lR⟩ := regCells hK
    cases ho : unitOf g.U s with
    | none =>
      have hlook := (umap_look_ok hU s hs).1 ho
      have HWW := Lib.hid hW
      clear hW hR hs hd hK hU ho hbase hbs
      go_enter Tryz.func103, Tryz.ntmps103
      go_wp2_with (fail)
      go_at_call 66
      refine (HV.out _).mono ?_
      rintro e w1 ⟨rfl, h1⟩
      obtain rfl := h1
      rw [← HWW.out]
      go_wp2_with (fail)
      go_at_call 138
      refine (dZeroDec _).mono ?_
      rintro e w2 ⟨p, rfl, hB, hE⟩
      have KA := (KW.out.alloc (.cells #[.pointer none] 84)).ext hE
      have HE := Lib.hid ((EW.out.trans' (ext1 _ _)).trans' hE)
      have d0 : w2.cell? ⟨w.heap.size, 0, none⟩ = some (.pointer none) := (KA.cell 0).trans rfl
      have f0 := KA.frozen 0
      have l0 := KA.lt
      clear hB hE KA c0 c1 hlook lR
      go_wp2
      exact bodyPost_ret (v := .tuple #[ptrV p, .bool false]) (by simp [results, Tryz.results103, go_sem, d0]) rfl ⟨p, rfl, (fun z h => nomatch h), Only.ext HE.out ((Only.refl _ _).set_ 0 _) (Nat.le_refl _)⟩
    | some z =>
      obtain ⟨b, hlook, hk⟩ := (umap_look_ok hU s hs).2 z ho
      have HWW := Lib.hid hW
      have HK := Lib.hid hk
      clear hW hR hs hd hK hU ho hbase hbs hk
      go_enter Tryz.func103, Tryz.ntmps103
      go_wp2_with (fail)
      go_at_call 66
      refine (HV.out _).mono ?_
      rintro e w1 ⟨rfl, h1⟩
      obtain rfl := h1
      rw [← HWW.out]
      have KA := KW.out.alloc (decBox b)
      have d0 : (W.alloc (decBox b)).cell? ⟨w.heap.size, 0, none⟩ = some (.pointer none) := (KA.cell 0).trans rfl
      have f0 := KA.frozen 0
      have l0 := KA.lt
      have hX := Lib.hid (show BigK ((W.alloc (decBox b)).setCell ⟨w.heap.size, 0, none⟩ (.pointer (some ⟨b, 0, none⟩))) b z from (HK.out.ext (ext1 W (decBox b))).set_ KA 0 _)
      go_wp2
      exact bodyPost_ret (v := .tuple #[ptrV b, .bool true]) (by simp [results, Tryz.results103, go_sem, d0]) rfl ⟨b, rfl, (fun z' h => by injection h with h; subst h; exact hX.out), Only.ext (EW.out.trans' (ext1 _ _)) ((Only.refl _ _).set_ 0 _) (Nat.le_refl _)⟩
  · rw [if_neg hd]
    have HV := Lib.hid (dValidBad (size63 hs) (by simpa using hd))
    have HWW := Lib.hid hW
    clear hW hR hs hd
    go_enter Tryz.func103, Tryz.ntmps103
    go_wp2_with (fail)
    go_at_call 66
    rw [← HWW.out]
    refine (HV.out _).mono ?_
    rintro e w1 ⟨q, rfl, hB, hE⟩
    have KA := Lib.hid (KW.out.ext hE)
    have HE1 := Lib.hid (EW.out.trans' hE)
    clear hE hB
    go_wp2_with (fail)
    go_at_call 138
    refine (dZeroDec _).mono ?_
    rintro e w2 ⟨p, rfl, hB, hE⟩
    have KB := KA.out.ext hE
    have HE := Lib.hid (HE1.out.trans' hE)
    have d0 : w2.cell? ⟨w.heap.size, 0, none⟩ = some (.pointer none) := (KB.cell 0).trans rfl
    have f0 := KB.frozen 0
    have l0 := KB.lt
    clear hB hE KB
    go_wp2
    exact bodyPost_ret (v := .tuple #[ptrV p, .bool false]) (by simp [results, Tryz.results103, go_sem, d0]) rfl ⟨p, rfl, (fun z h => nomatch h), Only.ext HE.out ((Only.refl _ _).set_ 0 _) (Nat.le_refl _)⟩
/-- The base, with an error if there is none. -/
def RetBase (base : ByteArray) (w : World) (e : Ending) (w' : World) : Prop :=
  ∃ v, e = .returned (.tuple #[.string base, v]) ∧ ((base ≠ ⟨#[]⟩ ∧ v = .nilIface) ∨ (base = ⟨#[]⟩ ∧ ∃ q, v = .iface 189 (.pointer (some ⟨q, 0, none⟩)))) ∧ Ext w w'
abbrev dNoDenom : ByteArray := ⟨#[110, 111, 32, 100, 101, 110, 111, 109, 32, 105, 115, 32, 114, 101, 103, 105, 115, 116, 101, 114, 101, 100]⟩
set_option maxRecDepth 100000 in
theorem tBase (R M : Nat) (g : Rg) (w : World) (hR : RegM w R M g) : Calls Tryz.prog 106 #[.pointer (some ⟨R, 0, none⟩)] w (RetBase g.base w) := by
  obtain ⟨hK, _⟩ := hR
  obtain ⟨c0, c1, lR⟩ := regCells hK
  clear hK
  obtain ⟨B, hB⟩ : ∃ B, B = g.base := ⟨_, rfl⟩
  rw [← hB] at c1 ⊢
  clear hB
  by_cases h : B = ⟨#[]⟩
  · subst h
    go_enter Tryz.func106, Tryz.ntmps106
    go_wp2_with (fail)
    go_at_call 112
    refine (eNew dNoDenom _).mono ?_
    rintro e w2 ⟨q, rfl, hB, hE⟩
    have HE := Lib.hid hE
    clear hE hB
    go_wp2
    go_ret2
    exact ⟨_, rfl, Or.inr ⟨rfl, q, rfl⟩, HE.out⟩
  · have e0 := base_ne h
    have HB := Lib.hid h
    clear h
    go_enter Tryz.func106, Tryz.ntmps106
    go_wp2
    go_ret2
    exact ⟨_, rfl, Or.inl ⟨HB.out, rfl⟩, Ext.refl _⟩
end Go.Proofs.YtcoffndnfaemoaaGreatDoor

namespace Go.Proofs.YtcoffndnfaemoaaGreatDoor
open Go Go.RowKit

/-- Records of ten cells, one behind the other. -/
def flat10 {α : Type} (f : α → List Value) (l : List α) : List Value := l.flatMap f
theorem flat10_append {α : Type} (f : α → List Value) (l m : List α) : flat10 f (l ++ m) = flat10 f l ++ flat10 f m := by simp [flat10]
theorem flat10_length {α : Type} {f : α → List Value} (hf : ∀ x, (f x).length = 10) (l : List α) : (flat10 f l).length = l.length * 10 := by
  induction l with
  | nil => rfl
  | cons x l ih => simp only [flat10, List.flatMap_cons, List.length_append, List.length_cons] at ih ⊢; rw [ih, hf]; omega
theorem flat10_get {α : Type} {f : α → List Value} (hf : ∀ x, (f x).length = 10) (l : List α) (j i : Nat) (h : j < l.length) (hi : i < 10) : (flat10 f l)[j * 10 + i]? = (f l[j])[i]? := by
  induction l generalizing j with
  | nil => cases h
  | cons x l ih =>
    show (f x ++ flat10 f l)[j * 10 + i]? = _
    cases j with
    | zero => rw [List.getElem?_append_left (by rw [hf]; omega)]; simp
    | succ j =>
      rw [List.getElem?_append_right (by rw [hf]; omega), hf, show (j + 1) * 10 + i - 10 = j * 10 + i by omega, ih j (by simpa using h)]
      rfl
theorem St.cells_length (s : St) : s.cells.length = 10 := rfl
theorem An.cells_length (s : An) : s.cells.length = 10 := rfl
/-- A slice of records of ten cells. -/
def At10 {α : Type} (f : α → List Value) (w : World) (A : Option Addr) (l : List α) : Prop :=
  l ≠ [] → ∃ g o, A = some ⟨g, o, none⟩ ∧ ∀ j (h : j < l.length), ∀ i u, (f l[j])[i]? = some u → w.cell? ⟨g, o + j * 10 + i, none⟩ = some u
theorem At10.ext {α : Type} {f : α → List Value} {w w' : World} {A : Option Addr} {l : List α} (h : At10 f w A l) (e : Ext w w') : At10 f w' A l := fun hn => by
  obtain ⟨g, o, ha, hc⟩ := h hn
  exact ⟨g, o, ha, fun j hj i u hu => e.cell' (hc j hj i u hu)⟩
abbrev StepsAt := At10 St.cells
/-- A row of the call's own. -/
def AnsOwn (w : World) (base : Nat) (v : Value) (l : List An) : Prop := w.ownsRow base 60 10 v l.length (flat10 An.cells l)
def StsOwn (w : World) (base : Nat) (v : Value) (l : List St) : Prop := w.ownsRow base 50 10 v l.length (flat10 St.cells l)
theorem AnsOwn.nil (w : World) (base : Nat) : AnsOwn w base (.slice none 0 0) [] := World.ownsRow_nil _ _ _ _
theorem StsOwn.nil (w : World) (base : Nat) : StsOwn w base (.slice none 0 0) [] := World.ownsRow_nil _ _ _ _
theorem AnsOwn.ext {w w' : World} {base : Nat} {v : Value} {l : List An} (h : AnsOwn w base v l) (e : Ext w w') : AnsOwn w' base v l := owns_ext h e
theorem StsOwn.ext {w w' : World} {base : Nat} {v : Value} {l : List St} (h : StsOwn w base v l) (e : Ext w w') : StsOwn w' base v l := owns_ext h e
theorem owns_two {w w' : World} {R M base n k : Nat} {E : TypeId} {v : Value} {xs : List Value} (h : w.ownsRow base E k v n xs) (e : Only2 R M w w') (hR : R < base) (hM : M < base) : w'.ownsRow base E k v n xs := by
  refine ⟨h.1, ?_⟩
  rcases h.2 with h2 | ⟨g, cap, cur, hv, hg, hh, r⟩
  · exact Or.inl h2
  · exact Or.inr ⟨g, cap, cur, hv, hg, (e.block g (Array.getElem?_eq_some_iff.1 hh).1 (by omega) (by omega)).trans hh, r⟩
theorem at10_of_owns {α : Type} {f : α → List Value} (hf : ∀ x, (f x).length = 10) {w : World} {base : Nat} {E : TypeId} {A : Option Addr} {n c : Nat} {l : List α} (h : w.ownsRow base E 10 (.slice A n c) l.length (flat10 f l)) : At10 f w A l := fun hn => by
  have hp : 0 < l.length := List.length_pos_iff.2 hn
  obtain ⟨g, cap, hv, _, _⟩ := World.ownsRow.form h (by omega)
  have hA : A = some ⟨g, 0, none⟩ := by injection hv
  subst hA
  have hc := World.ownsRow.cells h (g := g) rfl
  refine ⟨g, 0, rfl, fun j hj i u hu => ?_⟩
  have hi : i < 10 := by
    have := (List.getElem?_eq_some_iff.1 hu).1
    rw [hf] at this; exact this
  have c1 := hc (j * 10 + i) u (by rw [flat10_get hf l j i hj hi]; exact hu)
  simp only [Addr.add] at c1
  rw [Nat.zero_add]
  split at c1 <;> simp_all
theorem ten_slice {α : Type} {f : α → List Value} (hf : ∀ x, (f x).length = 10) {w : World} {base n : Nat} {E : TypeId} {v : Value} {l : List α} (h : w.ownsRow base E 10 v l.length (flat10 f l)) (hl : l.length = n) : ∃ A c, v = .slice A n c ∧ n ≤ c ∧ c ≤ maxLen ∧ At10 f w A l := by
  rcases h.2 with ⟨rfl, h0⟩ | ⟨g, cap, _, hv, _, _, hn, hm, _⟩
  · have : l = [] := List.eq_nil_of_length_eq_zero h0
    subst this
    subst hl
    exact ⟨none, 0, rfl, Nat.le_refl _, Nat.zero_le _, fun h => absurd rfl h⟩
  · subst hv; subst hl
    exact ⟨_, cap, rfl, hn, hm, at10_of_owns hf h⟩
/-- What grows in a row of the call's own leaves the registry. -/
theorem RegM.grown {w w' : World} {R M base n k : Nat} {E : TypeId} {g : Rg} {v : Value} {xs : List Value} (h : RegM w R M g) (ho : w.ownsRow base E k v n xs) (hg : w.grownBy w' v.ownBlock) (hR : R < base) (hM : M < base) (h1 : 167 ≠ E := by decide) (h2 : 126 ≠ E := by decide) : RegM w' R M g := by
  refine h.step (hg.block R h.1.lt fun e => ?_) (hg.block M h.2.2.1.lt fun e => ?_) (fun b z k => k.grown ho hg h1 h2)
  · have := (ho.lt R e.symm).1; omega
  · have := (ho.lt M e.symm).1; omega
theorem Only2.grown {W w w' : World} {R M base n k : Nat} {E : TypeId} {v : Value} {xs : List Value} (h : Only2 R M W w) (ho : w.ownsRow base E k v n xs) (hg : w.grownBy w' v.ownBlock) (hb : W.heap.size ≤ base) : Only2 R M W w' :=
  ⟨hg.os.trans h.os, hg.tape.trans h.tape, hg.output.trans h.output, Nat.le_trans h.size hg.size, fun i hi h1 h2 =>
    (hg.block i (Nat.lt_of_lt_of_le hi h.size) (fun e => by have := (ho.lt i e.symm).1; omega)).trans (h.block i hi h1 h2)⟩
theorem ans_push {W w w' : World} {R M base : Nat} {g : Rg} {v v' : Value} {l : List An} {x : An} (h : AnsOwn w base v l) (hr : RegM w R M g) (h2 : Only2 R M W w) (hR : R < base) (hM : M < base) (hb : W.heap.size ≤ base)
    (hown : w'.ownsRow base 60 10 v' (l.length + 1) (flat10 An.cells l ++ x.cells)) (hg : w.grownBy w' v.ownBlock) :
    AnsOwn w' base v' (l ++ [x]) ∧ RegM w' R M g ∧ Only2 R M W w' := by
  refine ⟨?_, hr.grown h hg hR hM, h2.grown h hg hb⟩
  unfold AnsOwn
  rw [List.length_append, flat10_append]
  simpa [flat10] using hown
/-- The answers to steps, in a row of the call's own. -/
def RetAns (l : List An) (w : World) (e : Ending) (w' : World) : Prop :=
  ∃ v, e = .returned v ∧ AnsOwn w' w.heap.size v l ∧ Ext w w'
theorem infoAns : (Tryz.prog.info? 60).map (fun i => (i.zero, i.size, i.bytes)) = some (some (.agg #[.bool false, .string ByteArray.empty, .int .i64 0, .int .i64 0, .string ByteArray.empty, .int .i64 0, .string ByteArray.empty, .int .i64 0, .int .i64 0, .slice none 0 0]), 10, 120) := by kernel_rfl
theorem infoSt : (Tryz.prog.info? 50).map (fun i => (i.zero, i.size, i.bytes)) = some (some (.agg #[.int .i64 0, .string ByteArray.empty, .int .i64 0, .int .i64 0, .string ByteArray.empty, .int .i64 0, .string ByteArray.empty, .int .i64 0, .int .i64 0, .slice none 0 0]), 10, 120) := by kernel_rfl
theorem ten_one (a : An) : ∀ u ∈ a.cells, u.oneCell' = true := by
  intro u hu
  simp only [An.cells, List.mem_cons, List.not_mem_nil, or_false] at hu
  rcases hu with rfl | rfl | rfl | rfl | rfl | rfl | rfl | rfl | rfl | rfl <;> rfl
theorem ten_one' (a : St) : ∀ u ∈ a.cells, u.oneCell' = true := by
  intro u hu
  simp only [St.cells, List.mem_cons, List.not_mem_nil, or_false] at hu
  rcases hu with rfl | rfl | rfl | rfl | rfl | rfl | rfl | rfl | rfl | rfl <;> rfl
/-- The cells of one record. -/
theorem st_get {w : World} {g o : Nat} {l : List St} (hc : ∀ j (h : j < l.length), ∀ i u, (l[j].cells)[i]? = some u → w.cell? ⟨g, o + j * 10 + i, none⟩ = some u) (k : Nat) (hk : k < l.length) (s : St) (hs : l[k] = s) :
    w.cell? ⟨g, o + k * 10, none⟩ = some (.int .i64 s.kind) ∧ w.cell? ⟨g, o + k * 10 + 1, none⟩ = some (.string s.denom) ∧ w.cell? ⟨g, o + k * 10 + 2, none⟩ = some (.int .i64 s.uw) ∧ w.cell? ⟨g, o + k * 10 + 3, none⟩ = some (.int .i64 s.uf) ∧
    w.cell? ⟨g, o + k * 10 + 4, none⟩ = some (.string s.cs) ∧ w.cell? ⟨g, o + k * 10 + 5, none⟩ = some (.int .i64 s.ca) ∧ w.cell? ⟨g, o + k * 10 + 6, none⟩ = some (.string s.ds) ∧ w.cell? ⟨g, o + k * 10 + 7, none⟩ = some (.int .i64 s.dw) ∧ w.cell? ⟨g, o + k * 10 + 8, none⟩ = some (.int .i64 s.df) ∧ w.cell? ⟨g, o + k * 10 + 9, none⟩ = some (.slice s.A s.n s.c) := by
  subst hs
  exact ⟨hc k hk 0 _ rfl, hc k hk 1 _ rfl, hc k hk 2 _ rfl, hc k hk 3 _ rfl, hc k hk 4 _ rfl, hc k hk 5 _ rfl, hc k hk 6 _ rfl, hc k hk 7 _ rfl, hc k hk 8 _ rfl, hc k hk 9 _ rfl⟩
end Go.Proofs.YtcoffndnfaemoaaGreatDoor

namespace Go.Proofs.YtcoffndnfaemoaaGreatDoor
open Go Go.RowKit

abbrev ans0 : Obj := .cells #[.bool false, .string ⟨#[]⟩, .int .i64 0, .int .i64 0, .string ⟨#[]⟩, .int .i64 0, .string ⟨#[]⟩, .int .i64 0, .int .i64 0, .slice none 0 0] 60
abbrev ansZ : List Value := [.bool false, .string ⟨#[]⟩, .int .i64 0, .int .i64 0, .string ⟨#[]⟩, .int .i64 0, .string ⟨#[]⟩, .int .i64 0, .int .i64 0, .slice none 0 0]
theorem ten_cells {W : World} {g : Nat} {T : TypeId} {a0 a1 a2 a3 a4 a5 a6 a7 a8 a9 : Value} (h : Blk W g T [a0, a1, a2, a3, a4, a5, a6, a7, a8, a9]) :
    W.cell? ⟨g, 0, none⟩ = some a0 ∧ W.cell? ⟨g, 1, none⟩ = some a1 ∧ W.cell? ⟨g, 2, none⟩ = some a2 ∧ W.cell? ⟨g, 3, none⟩ = some a3 ∧ W.cell? ⟨g, 4, none⟩ = some a4 ∧ W.cell? ⟨g, 5, none⟩ = some a5 ∧ W.cell? ⟨g, 6, none⟩ = some a6 ∧ W.cell? ⟨g, 7, none⟩ = some a7 ∧ W.cell? ⟨g, 8, none⟩ = some a8 ∧ W.cell? ⟨g, 9, none⟩ = some a9 ∧ g < W.heap.size :=
  ⟨(h.cell 0).trans rfl, (h.cell 1).trans rfl, (h.cell 2).trans rfl, (h.cell 3).trans rfl, (h.cell 4).trans rfl, (h.cell 5).trans rfl, (h.cell 6).trans rfl, (h.cell 7).trans rfl, (h.cell 8).trans rfl, (h.cell 9).trans rfl, h.lt⟩
/-- A step's answer; the registry behind it. -/
def RetU (R M : Nat) (a : An) (g : Rg) (w : World) (e : Ending) (w' : World) : Prop := e = .returned (.agg a.cells.toArray) ∧ RegM w' R M g ∧ Only2 R M w w'
theorem RegM.set_ {w : World} {R M q : Nat} {g : Rg} {t : TypeId} {cs : List Value} (h : RegM w R M g) (hq : Blk w q t cs) (hR : q ≠ R) (hM : q ≠ M) (i : Nat) (u : Value) (h1 : 167 ≠ t := by decide) (h2 : 126 ≠ t := by decide) : RegM (w.setCell ⟨q, i, none⟩ u) R M g :=
  h.step (Below.heap_setCell w _ u R (fun e => hR e.symm)) (Below.heap_setCell w _ u M (fun e => hM e.symm)) (fun _ _ k => k.set_ hq i u h1 h2)
theorem Only2.setNew {W w : World} {R M q : Nat} (h : Only2 R M W w) (hq : W.heap.size ≤ q) (i : Nat) (u : Value) : Only2 R M W (w.setCell ⟨q, i, none⟩ u) :=
  ⟨h.os, h.tape, h.output, by simpa [World.setCell] using h.size, fun k hk h1 h2 => (Below.heap_setCell w _ u k (by show k ≠ q; omega)).trans (h.block k hk h1 h2)⟩
/-- The answer's record stored over itself. -/
theorem u_fin {w Y : World} {R M q : Nat} {g : Rg} {v0 v1 v2 v3 v4 v5 v6 v7 v8 v9 : Value} (hK : Blk Y q 60 [v0, v1, v2, v3, v4, v5, v6, v7, v8, v9]) (hR : RegM Y R M g) (hO : Only2 R M w Y) (hq : w.heap.size ≤ q) (h1 : q ≠ R) (h2 : q ≠ M) :
    ∃ Z, Z = ((((((((((Y.setCell ⟨q, 0, none⟩ v0).setCell ⟨q, 1, none⟩ v1).setCell ⟨q, 2, none⟩ v2).setCell ⟨q, 3, none⟩ v3).setCell ⟨q, 4, none⟩ v4).setCell ⟨q, 5, none⟩ v5).setCell ⟨q, 6, none⟩ v6).setCell ⟨q, 7, none⟩ v7).setCell ⟨q, 8, none⟩ v8).setCell ⟨q, 9, none⟩ v9) ∧ Blk Z q 60 [v0, v1, v2, v3, v4, v5, v6, v7, v8, v9] ∧ RegM Z R M g ∧ Only2 R M w Z := by
  refine ⟨_, rfl, ?_⟩
  have step : ∀ (Y : World) (cs : List Value) (i : Nat) (v : Value), (Blk Y q 60 cs ∧ RegM Y R M g ∧ Only2 R M w Y) → (Blk (Y.setCell ⟨q, i, none⟩ v) q 60 (cs.set i v) ∧ RegM (Y.setCell ⟨q, i, none⟩ v) R M g ∧ Only2 R M w (Y.setCell ⟨q, i, none⟩ v)) :=
    fun Y cs i v ⟨a, b, c⟩ => ⟨a.set_ i v, b.set_ a h1 h2 i v, c.setNew hq i v⟩
  exact step _ _ 9 v9 (step _ _ 8 v8 (step _ _ 7 v7 (step _ _ 6 v6 (step _ _ 5 v5 (step _ _ 4 v4 (step _ _ 3 v3 (step _ _ 2 v2 (step _ _ 1 v1 (step _ _ 0 v0 (⟨hK, hR, hO⟩))))))))))
/-- RegisterDenom, all ways. -/
theorem tReg (R M b : Nat) (g : Rg) (s : ByteArray) (z : Int) (w : World) (hR : RegM w R M g) (hs : s.size ≤ maxLen) (hb : BigK w b z) (hn : g.U.length < 1000000) :
    Calls Tryz.prog 102 #[.pointer (some ⟨R, 0, none⟩), .string s, ptrV b] w (RetReg R M (g.reg s z).1 (g.reg s z).2 w) := by
  unfold Rg.reg
  by_cases hd : denomB s = true
  · cases hz : unitOf g.U s with
    | some y => rw [if_neg (by simp)]; exact tRegHas R M b g s y w hR hs hd hz
    | none =>
      rw [if_pos ⟨hd, rfl⟩]
      by_cases h0 : g.base = ⟨#[]⟩
      · rw [if_pos (Or.inl h0)]
        obtain ⟨U, B⟩ := g
        simp only at h0; subst h0
        exact tRegNew0 R M b U s z w hR hs hd hz hb hn
      · exact tRegNew1 R M b g s z w hR hs hd hz hb hn h0
  · rw [if_neg (by simp [hd])]
    exact tRegBad R M b g s w hR hs (by simpa using hd)

set_option maxRecDepth 100000 in
theorem uStep0F (R M : Nat) (g : Rg) (s : ByteArray) (x y : Int) (c1 : ByteArray) (c2 : Int) (d1 : ByteArray) (d2 d3 : Int) (A : Option Addr) (n c : Nat) (w : World) (hR : RegM w R M g) (hs : s.size ≤ maxLen) (hD : DecB x y) (hT : Thr w) (hp : ¬ 0 < decV x y) :
    Calls Tryz.prog 64 #[.pointer (some ⟨R, 0, none⟩), .agg (St.cells ⟨0, s, x, y, c1, c2, d1, d2, d3, A, n, c⟩).toArray] w (RetU R M ⟨false, ⟨#[]⟩, 0, 0⟩ g w) := by
  obtain ⟨z, hz⟩ : ∃ z, z = decV x y := ⟨_, rfl⟩
  have HD := Lib.hid (fun W (h : Thr W) => iDec x y W hD h)
  rw [← hz] at HD hp
  have HP := Lib.hid (fun b W (h : BigK W b z) => dIsPositive b z W h)
  rw [dsgn_pos, decide_eq_false hp] at HP
  have TH := Lib.hid hT
  clear hz hD hp hT
  obtain ⟨W, hW⟩ : ∃ W, W = (w.alloc (.cells #[.int .i64 0, .string s, .int .i64 x, .int .i64 y, .string c1, .int .i64 c2, .string d1, .int .i64 d2, .int .i64 d3, .slice A n c] 50)).alloc ans0 := ⟨_, rfl⟩
  have EW := Lib.hid (show Ext w W by rw [hW]; exact ext2 _ _ _)
  have K0 := Lib.hid (show Blk W w.heap.size 50 [.int .i64 0, .string s, .int .i64 x, .int .i64 y, .string c1, .int .i64 c2, .string d1, .int .i64 d2, .int .i64 d3, .slice A n c] by rw [hW]; exact (blk_new0 w 50 [.int .i64 0, .string s, .int .i64 x, .int .i64 y, .string c1, .int .i64 c2, .string d1, .int .i64 d2, .int .i64 d3, .slice A n c]).alloc _)
  have K1 := Lib.hid (show Blk W (w.heap.size + 1) 60 ansZ by rw [hW]; exact blk_new1 w _ 60 ansZ)
  have TW := Lib.hid (show Thr W from TH.out.ext EW.out)
  have HR := Lib.hid (hR.ext EW.out)
  have lR := hR.1.lt
  have lM := hR.2.2.1.lt
  have HWW := Lib.hid hW
  have HSZ := Lib.hid hs
  clear hW hR hs
  show Calls _ _ #[.pointer (some ⟨R, 0, none⟩), .agg #[.int .i64 0, .string s, .int .i64 x, .int .i64 y, .string c1, .int .i64 c2, .string d1, .int .i64 d2, .int .i64 d3, .slice A n c]] _ _
  obtain ⟨k0, k1, k2, k3, -⟩ := ten_cells K0.out
  have lk := K0.out.lt
  go_enter Tryz.func64, Tryz.ntmps64
  go_wp2_with (fail)
  go_at_call 49
  rw [← HWW.out]
  refine (HD.out _ TW.out).mono ?_
  rintro e w1 ⟨b, rfl, hB, hE⟩
  have HB1 := Lib.hid (hB.k.ext (Ext.alloc' w1 (decBox b)))
  have HE1 := Lib.hid (hE.trans' (Ext.alloc' w1 (decBox b)))
  clear hB hE k0 k1 k2 k3 lk
  go_wp2_with (fail)
  go_at_call 101
  refine (HP.out b _ HB1.out).mono ?_
  rintro e w2 ⟨rfl, hE⟩
  have HB2 := Lib.hid (HB1.out.ext hE)
  have kb := ((blk_new0 w1 84 [.pointer (some ⟨b, 0, none⟩)]).ext hE)
  have HE2 := Lib.hid (HE1.out.trans' hE)
  have b0 : w2.cell? ⟨w1.heap.size, 0, none⟩ = some (.pointer (some ⟨b, 0, none⟩)) := (kb.cell 0).trans rfl
  have lb := kb.lt
  clear hE kb
  obtain ⟨k0, k1, k2, k3, k4, k5, k6, k7, k8, k9, lk⟩ := ten_cells (K0.out.ext HE2.out)
  clear k4 k5 k6 k7 k8 k9
  have KA := K1.out.ext HE2.out
  have RW := Lib.hid (show RegM w2 R M g ∧ Only2 R M w w2 from ⟨HR.out.ext HE2.out, (EW.out.trans' HE2.out).two⟩)
  obtain ⟨a0, a1, a2, a3, a4, a5, a6, a7, a8, a9, la⟩ := ten_cells KA
  have f0 := KA.frozen 0; have f1 := KA.frozen 1; have f2 := KA.frozen 2; have f3 := KA.frozen 3
  obtain ⟨Y, hY⟩ : ∃ Y, Y = (w2.setCell ⟨w.heap.size + 1, 0, none⟩ (.bool false)) := ⟨_, rfl⟩
  have KY := Lib.hid (show Blk Y (w.heap.size + 1) 60 [.bool false, .string ⟨#[]⟩, .int .i64 0, .int .i64 0, .string ⟨#[]⟩, .int .i64 0, .string ⟨#[]⟩, .int .i64 0, .int .i64 0, .slice none 0 0] by rw [hY]; exact ((KA).set_ 0 (.bool false)))
  have RY := Lib.hid (show RegM Y R M g ∧ Only2 R M w Y by rw [hY]; exact ⟨((RW.out.1).set_ (KA) (by omega) (by omega) 0 _), ((RW.out.2).setNew (by omega) 0 _)⟩)
  have HY := Lib.hid hY
  clear KA hY
  go_upto_region 22 with fail
  rw [← HY.out]
  clear a0 a1 a2 a3 a4 a5 a6 a7 a8 a9 la f0 f1 f2 f3 k0 k1 k2 k3 lk b0 lb
  obtain ⟨a0, a1, a2, a3, a4, a5, a6, a7, a8, a9, la⟩ := ten_cells KY.out
  have f0 := KY.out.frozen 0; have f1 := KY.out.frozen 1; have f2 := KY.out.frozen 2; have f3 := KY.out.frozen 3; have f4 := KY.out.frozen 4; have f5 := KY.out.frozen 5; have f6 := KY.out.frozen 6; have f7 := KY.out.frozen 7; have f8 := KY.out.frozen 8; have f9 := KY.out.frozen 9
  have HF := Lib.hid (u_fin KY.out RY.out.1 RY.out.2 (by omega) (by omega) (by omega))
  go_wp2
  obtain ⟨Z, hZ, KZ, RZ⟩ := HF.out
  rw [← hZ]
  obtain ⟨z0, z1, z2, z3, z4, z5, z6, z7, z8, z9, -⟩ := ten_cells KZ
  exact bodyPost_ret (v := .agg #[.bool false, .string ⟨#[]⟩, .int .i64 0, .int .i64 0, .string ⟨#[]⟩, .int .i64 0, .string ⟨#[]⟩, .int .i64 0, .int .i64 0, .slice none 0 0]) (by simp [results, Tryz.results64, go_sem, z0, z1, z2, z3, z4, z5, z6, z7, z8, z9]) rfl ⟨rfl, RZ⟩

set_option maxRecDepth 100000 in
theorem uStep0T (R M : Nat) (g : Rg) (s : ByteArray) (x y : Int) (c1 : ByteArray) (c2 : Int) (d1 : ByteArray) (d2 d3 : Int) (A : Option Addr) (n c : Nat) (w : World) (hR : RegM w R M g) (hs : s.size ≤ maxLen) (hD : DecB x y) (hT : Thr w) (hn : g.U.length < 1000000) (hp : 0 < decV x y) :
    Calls Tryz.prog 64 #[.pointer (some ⟨R, 0, none⟩), .agg (St.cells ⟨0, s, x, y, c1, c2, d1, d2, d3, A, n, c⟩).toArray] w (RetU R M ⟨(g.reg s (decV x y)).1, ⟨#[]⟩, 0, 0⟩ (g.reg s (decV x y)).2 w) := by
  obtain ⟨z, hz⟩ : ∃ z, z = decV x y := ⟨_, rfl⟩
  have HD := Lib.hid (fun W (h : Thr W) => iDec x y W hD h)
  rw [← hz] at HD hp
  have HP := Lib.hid (fun b W (h : BigK W b z) => dIsPositive b z W h)
  rw [dsgn_pos, decide_eq_true hp] at HP
  have TH := Lib.hid hT
  have HN := Lib.hid hn
  have HG := Lib.hid (fun b W (h : RegM W R M g) (k : BigK W b z) => tReg R M b g s z W h hs k hn)
  rw [← hz]
  obtain ⟨ok, hok⟩ : ∃ ok, ok = (g.reg s z).1 := ⟨_, rfl⟩
  obtain ⟨g2, hg2⟩ : ∃ g2, g2 = (g.reg s z).2 := ⟨_, rfl⟩
  rw [← hok, ← hg2] at HG
  rw [← hok, ← hg2]
  clear hz hD hp hT hn hok hg2
  obtain ⟨W, hW⟩ : ∃ W, W = (w.alloc (.cells #[.int .i64 0, .string s, .int .i64 x, .int .i64 y, .string c1, .int .i64 c2, .string d1, .int .i64 d2, .int .i64 d3, .slice A n c] 50)).alloc ans0 := ⟨_, rfl⟩
  have EW := Lib.hid (show Ext w W by rw [hW]; exact ext2 _ _ _)
  have K0 := Lib.hid (show Blk W w.heap.size 50 [.int .i64 0, .string s, .int .i64 x, .int .i64 y, .string c1, .int .i64 c2, .string d1, .int .i64 d2, .int .i64 d3, .slice A n c] by rw [hW]; exact (blk_new0 w 50 [.int .i64 0, .string s, .int .i64 x, .int .i64 y, .string c1, .int .i64 c2, .string d1, .int .i64 d2, .int .i64 d3, .slice A n c]).alloc _)
  have K1 := Lib.hid (show Blk W (w.heap.size + 1) 60 ansZ by rw [hW]; exact blk_new1 w _ 60 ansZ)
  have TW := Lib.hid (show Thr W from TH.out.ext EW.out)
  have HR := Lib.hid (hR.ext EW.out)
  have lR := hR.1.lt
  have lM := hR.2.2.1.lt
  have HWW := Lib.hid hW
  have HSZ := Lib.hid hs
  clear hW hR hs
  show Calls _ _ #[.pointer (some ⟨R, 0, none⟩), .agg #[.int .i64 0, .string s, .int .i64 x, .int .i64 y, .string c1, .int .i64 c2, .string d1, .int .i64 d2, .int .i64 d3, .slice A n c]] _ _
  obtain ⟨k0, k1, k2, k3, -⟩ := ten_cells K0.out
  have lk := K0.out.lt
  go_enter Tryz.func64, Tryz.ntmps64
  go_wp2_with (fail)
  go_at_call 49
  rw [← HWW.out]
  refine (HD.out _ TW.out).mono ?_
  rintro e w1 ⟨b, rfl, hB, hE⟩
  have HB1 := Lib.hid (hB.k.ext (Ext.alloc' w1 (decBox b)))
  have HE1 := Lib.hid (hE.trans' (Ext.alloc' w1 (decBox b)))
  clear hB hE k0 k1 k2 k3 lk
  go_wp2_with (fail)
  go_at_call 101
  refine (HP.out b _ HB1.out).mono ?_
  rintro e w2 ⟨rfl, hE⟩
  have HB2 := Lib.hid (HB1.out.ext hE)
  have kb := ((blk_new0 w1 84 [.pointer (some ⟨b, 0, none⟩)]).ext hE)
  have HE2 := Lib.hid (HE1.out.trans' hE)
  have b0 : w2.cell? ⟨w1.heap.size, 0, none⟩ = some (.pointer (some ⟨b, 0, none⟩)) := (kb.cell 0).trans rfl
  have lb := kb.lt
  clear hE kb
  obtain ⟨k0, k1, k2, k3, k4, k5, k6, k7, k8, k9, lk⟩ := ten_cells (K0.out.ext HE2.out)
  clear k4 k5 k6 k7 k8 k9
  go_wp2_with (fail)
  go_at_call 102
  refine (HG.out b _ (HR.out.ext HE2.out) HB2.out).mono ?_
  rintro e w3 ⟨v, rfl, hv, hR3, hO3⟩
  have KA := hO3.blk (K1.out.ext HE2.out) (by omega) (by omega)
  have RW := Lib.hid (show RegM w3 R M g2 ∧ Only2 R M w w3 from ⟨hR3, ((EW.out.trans' HE2.out).two).trans' hO3⟩)
  clear hR3 hO3 k0 k1 k2 k3 lk b0 lb
  rcases hv with ⟨rfl, rfl⟩ | ⟨rfl, q, rfl⟩
  · skip
    obtain ⟨a0, a1, a2, a3, a4, a5, a6, a7, a8, a9, la⟩ := ten_cells KA
    have f0 := KA.frozen 0; have f1 := KA.frozen 1; have f2 := KA.frozen 2; have f3 := KA.frozen 3
    obtain ⟨Y, hY⟩ : ∃ Y, Y = (w3.setCell ⟨w.heap.size + 1, 0, none⟩ (.bool true)) := ⟨_, rfl⟩
    have KY := Lib.hid (show Blk Y (w.heap.size + 1) 60 [.bool true, .string ⟨#[]⟩, .int .i64 0, .int .i64 0, .string ⟨#[]⟩, .int .i64 0, .string ⟨#[]⟩, .int .i64 0, .int .i64 0, .slice none 0 0] by rw [hY]; exact ((KA).set_ 0 (.bool true)))
    have RY := Lib.hid (show RegM Y R M g2 ∧ Only2 R M w Y by rw [hY]; exact ⟨((RW.out.1).set_ (KA) (by omega) (by omega) 0 _), ((RW.out.2).setNew (by omega) 0 _)⟩)
    have HY := Lib.hid hY
    clear KA hY
    go_upto_region 22 with fail
    rw [← HY.out]
    clear a0 a1 a2 a3 a4 a5 a6 a7 a8 a9 la f0 f1 f2 f3 
    obtain ⟨a0, a1, a2, a3, a4, a5, a6, a7, a8, a9, la⟩ := ten_cells KY.out
    have f0 := KY.out.frozen 0; have f1 := KY.out.frozen 1; have f2 := KY.out.frozen 2; have f3 := KY.out.frozen 3; have f4 := KY.out.frozen 4; have f5 := KY.out.frozen 5; have f6 := KY.out.frozen 6; have f7 := KY.out.frozen 7; have f8 := KY.out.frozen 8; have f9 := KY.out.frozen 9
    have HF := Lib.hid (u_fin KY.out RY.out.1 RY.out.2 (by omega) (by omega) (by omega))
    go_wp2
    obtain ⟨Z, hZ, KZ, RZ⟩ := HF.out
    rw [← hZ]
    obtain ⟨z0, z1, z2, z3, z4, z5, z6, z7, z8, z9, -⟩ := ten_cells KZ
    exact bodyPost_ret (v := .agg #[.bool true, .string ⟨#[]⟩, .int .i64 0, .int .i64 0, .string ⟨#[]⟩, .int .i64 0, .string ⟨#[]⟩, .int .i64 0, .int .i64 0, .slice none 0 0]) (by simp [results, Tryz.results64, go_sem, z0, z1, z2, z3, z4, z5, z6, z7, z8, z9]) rfl ⟨rfl, RZ⟩
  · skip
    obtain ⟨a0, a1, a2, a3, a4, a5, a6, a7, a8, a9, la⟩ := ten_cells KA
    have f0 := KA.frozen 0; have f1 := KA.frozen 1; have f2 := KA.frozen 2; have f3 := KA.frozen 3
    obtain ⟨Y, hY⟩ : ∃ Y, Y = (w3.setCell ⟨w.heap.size + 1, 0, none⟩ (.bool false)) := ⟨_, rfl⟩
    have KY := Lib.hid (show Blk Y (w.heap.size + 1) 60 [.bool false, .string ⟨#[]⟩, .int .i64 0, .int .i64 0, .string ⟨#[]⟩, .int .i64 0, .string ⟨#[]⟩, .int .i64 0, .int .i64 0, .slice none 0 0] by rw [hY]; exact ((KA).set_ 0 (.bool false)))
    have RY := Lib.hid (show RegM Y R M g2 ∧ Only2 R M w Y by rw [hY]; exact ⟨((RW.out.1).set_ (KA) (by omega) (by omega) 0 _), ((RW.out.2).setNew (by omega) 0 _)⟩)
    have HY := Lib.hid hY
    clear KA hY
    go_upto_region 22 with fail
    rw [← HY.out]
    clear a0 a1 a2 a3 a4 a5 a6 a7 a8 a9 la f0 f1 f2 f3 
    obtain ⟨a0, a1, a2, a3, a4, a5, a6, a7, a8, a9, la⟩ := ten_cells KY.out
    have f0 := KY.out.frozen 0; have f1 := KY.out.frozen 1; have f2 := KY.out.frozen 2; have f3 := KY.out.frozen 3; have f4 := KY.out.frozen 4; have f5 := KY.out.frozen 5; have f6 := KY.out.frozen 6; have f7 := KY.out.frozen 7; have f8 := KY.out.frozen 8; have f9 := KY.out.frozen 9
    have HF := Lib.hid (u_fin KY.out RY.out.1 RY.out.2 (by omega) (by omega) (by omega))
    go_wp2
    obtain ⟨Z, hZ, KZ, RZ⟩ := HF.out
    rw [← hZ]
    obtain ⟨z0, z1, z2, z3, z4, z5, z6, z7, z8, z9, -⟩ := ten_cells KZ
    exact bodyPost_ret (v := .agg #[.bool false, .string ⟨#[]⟩, .int .i64 0, .int .i64 0, .string ⟨#[]⟩, .int .i64 0, .string ⟨#[]⟩, .int .i64 0, .int .i64 0, .slice none 0 0]) (by simp [results, Tryz.results64, go_sem, z0, z1, z2, z3, z4, z5, z6, z7, z8, z9]) rfl ⟨rfl, RZ⟩

set_option maxRecDepth 100000 in
theorem uStep1S (R M : Nat) (g : Rg) (s : ByteArray) (x y : Int) (c1 : ByteArray) (c2 : Int) (d1 : ByteArray) (d2 d3 : Int) (A : Option Addr) (n c : Nat) (w : World) (hR : RegM w R M g) (hs : s.size ≤ maxLen) {z : Int} (ho : g.unit s = some z) (hf : FitT z) :
    Calls Tryz.prog 64 #[.pointer (some ⟨R, 0, none⟩), .agg (St.cells ⟨1, s, x, y, c1, c2, d1, d2, d3, A, n, c⟩).toArray] w (RetU R M ⟨true, ⟨#[]⟩, Int.tdiv z T18, Int.tmod z T18⟩ g w) := by
  have HG := Lib.hid (fun W (h : RegM W R M g) => tGet R M g s W h hs)
  rw [ho] at HG
  obtain ⟨q, hq⟩ : ∃ q, q = Int.tdiv z T18 := ⟨_, rfl⟩
  obtain ⟨r, hr⟩ : ∃ r, r = Int.tmod z T18 := ⟨_, rfl⟩
  have HB := Lib.hid (fun b W (h : BigK W b z) => iBackDec b z W h hf)
  rw [← hq, ← hr] at HB
  rw [← hq, ← hr]
  clear hq hr hf
  clear ho
  obtain ⟨W, hW⟩ : ∃ W, W = (w.alloc (.cells #[.int .i64 1, .string s, .int .i64 x, .int .i64 y, .string c1, .int .i64 c2, .string d1, .int .i64 d2, .int .i64 d3, .slice A n c] 50)).alloc ans0 := ⟨_, rfl⟩
  have EW := Lib.hid (show Ext w W by rw [hW]; exact ext2 _ _ _)
  have K0 := Lib.hid (show Blk W w.heap.size 50 [.int .i64 1, .string s, .int .i64 x, .int .i64 y, .string c1, .int .i64 c2, .string d1, .int .i64 d2, .int .i64 d3, .slice A n c] by rw [hW]; exact (blk_new0 w 50 [.int .i64 1, .string s, .int .i64 x, .int .i64 y, .string c1, .int .i64 c2, .string d1, .int .i64 d2, .int .i64 d3, .slice A n c]).alloc _)
  have K1 := Lib.hid (show Blk W (w.heap.size + 1) 60 ansZ by rw [hW]; exact blk_new1 w _ 60 ansZ)
  have HR := Lib.hid (hR.ext EW.out)
  have lR := hR.1.lt
  have lM := hR.2.2.1.lt
  have HWW := Lib.hid hW
  have HSZ := Lib.hid hs
  clear hW hR hs
  show Calls _ _ #[.pointer (some ⟨R, 0, none⟩), .agg #[.int .i64 1, .string s, .int .i64 x, .int .i64 y, .string c1, .int .i64 c2, .string d1, .int .i64 d2, .int .i64 d3, .slice A n c]] _ _
  obtain ⟨k0, k1, k2, k3, -⟩ := ten_cells K0.out
  have lk := K0.out.lt
  go_enter Tryz.func64, Tryz.ntmps64
  go_wp2_with (fail)
  go_at_call 103
  rw [← HWW.out]
  refine (HG.out _ HR.out).mono ?_
  rintro e w1 ⟨b, rfl, hB, hE⟩
  have kb := blk_new0 w1 84 [.pointer (some ⟨b, 0, none⟩)]
  have HE1 := Lib.hid (hE.trans' (ext1 w1 (decBox b)))
  have HB1 := Lib.hid ((hB _ rfl).ext (ext1 w1 (decBox b)))
  clear hB hE kb k0 k1 k2 k3 lk
  go_wp2_with (fail)
  go_at_call 104
  refine (HB.out b _ HB1.out).mono ?_
  rintro e w2 ⟨rfl, hE⟩
  have HE2 := Lib.hid (HE1.out.trans' hE)
  have KA := K1.out.ext HE2.out
  have RW := Lib.hid (show RegM w2 R M g ∧ Only2 R M w w2 from ⟨HR.out.ext HE2.out, (EW.out.trans' HE2.out).two⟩)
  clear hE
  obtain ⟨a0, a1, a2, a3, a4, a5, a6, a7, a8, a9, la⟩ := ten_cells KA
  have f0 := KA.frozen 0; have f1 := KA.frozen 1; have f2 := KA.frozen 2; have f3 := KA.frozen 3
  obtain ⟨Y, hY⟩ : ∃ Y, Y = (((w2.setCell ⟨w.heap.size + 1, 2, none⟩ (.int .i64 q)).setCell ⟨w.heap.size + 1, 3, none⟩ (.int .i64 r)).setCell ⟨w.heap.size + 1, 0, none⟩ (.bool true)) := ⟨_, rfl⟩
  have KY := Lib.hid (show Blk Y (w.heap.size + 1) 60 [.bool true, .string ⟨#[]⟩, .int .i64 q, .int .i64 r, .string ⟨#[]⟩, .int .i64 0, .string ⟨#[]⟩, .int .i64 0, .int .i64 0, .slice none 0 0] by rw [hY]; exact ((((((KA).set_ 2 (.int .i64 q))).set_ 3 (.int .i64 r))).set_ 0 (.bool true)))
  have RY := Lib.hid (show RegM Y R M g ∧ Only2 R M w Y by rw [hY]; exact ⟨((((((RW.out.1).set_ (KA) (by omega) (by omega) 2 _)).set_ (((KA).set_ 2 (.int .i64 q))) (by omega) (by omega) 3 _)).set_ (((((KA).set_ 2 (.int .i64 q))).set_ 3 (.int .i64 r))) (by omega) (by omega) 0 _), ((((((RW.out.2).setNew (by omega) 2 _)).setNew (by omega) 3 _)).setNew (by omega) 0 _)⟩)
  have HY := Lib.hid hY
  clear KA hY
  go_upto_region 22 with fail
  rw [← HY.out]
  clear a0 a1 a2 a3 a4 a5 a6 a7 a8 a9 la f0 f1 f2 f3 
  obtain ⟨a0, a1, a2, a3, a4, a5, a6, a7, a8, a9, la⟩ := ten_cells KY.out
  have f0 := KY.out.frozen 0; have f1 := KY.out.frozen 1; have f2 := KY.out.frozen 2; have f3 := KY.out.frozen 3; have f4 := KY.out.frozen 4; have f5 := KY.out.frozen 5; have f6 := KY.out.frozen 6; have f7 := KY.out.frozen 7; have f8 := KY.out.frozen 8; have f9 := KY.out.frozen 9
  have HF := Lib.hid (u_fin KY.out RY.out.1 RY.out.2 (by omega) (by omega) (by omega))
  go_wp2
  obtain ⟨Z, hZ, KZ, RZ⟩ := HF.out
  rw [← hZ]
  obtain ⟨z0, z1, z2, z3, z4, z5, z6, z7, z8, z9, -⟩ := ten_cells KZ
  exact bodyPost_ret (v := .agg #[.bool true, .string ⟨#[]⟩, .int .i64 q, .int .i64 r, .string ⟨#[]⟩, .int .i64 0, .string ⟨#[]⟩, .int .i64 0, .int .i64 0, .slice none 0 0]) (by simp [results, Tryz.results64, go_sem, z0, z1, z2, z3, z4, z5, z6, z7, z8, z9]) rfl ⟨rfl, RZ⟩

set_option maxRecDepth 100000 in
theorem uStep1N (R M : Nat) (g : Rg) (s : ByteArray) (x y : Int) (c1 : ByteArray) (c2 : Int) (d1 : ByteArray) (d2 d3 : Int) (A : Option Addr) (n c : Nat) (w : World) (hR : RegM w R M g) (hs : s.size ≤ maxLen) (ho : g.unit s = none) :
    Calls Tryz.prog 64 #[.pointer (some ⟨R, 0, none⟩), .agg (St.cells ⟨1, s, x, y, c1, c2, d1, d2, d3, A, n, c⟩).toArray] w (RetU R M ⟨false, ⟨#[]⟩, 0, 0⟩ g w) := by
  have HG := Lib.hid (fun W (h : RegM W R M g) => tGet R M g s W h hs)
  rw [ho] at HG
  clear ho
  obtain ⟨W, hW⟩ : ∃ W, W = (w.alloc (.cells #[.int .i64 1, .string s, .int .i64 x, .int .i64 y, .string c1, .int .i64 c2, .string d1, .int .i64 d2, .int .i64 d3, .slice A n c] 50)).alloc ans0 := ⟨_, rfl⟩
  have EW := Lib.hid (show Ext w W by rw [hW]; exact ext2 _ _ _)
  have K0 := Lib.hid (show Blk W w.heap.size 50 [.int .i64 1, .string s, .int .i64 x, .int .i64 y, .string c1, .int .i64 c2, .string d1, .int .i64 d2, .int .i64 d3, .slice A n c] by rw [hW]; exact (blk_new0 w 50 [.int .i64 1, .string s, .int .i64 x, .int .i64 y, .string c1, .int .i64 c2, .string d1, .int .i64 d2, .int .i64 d3, .slice A n c]).alloc _)
  have K1 := Lib.hid (show Blk W (w.heap.size + 1) 60 ansZ by rw [hW]; exact blk_new1 w _ 60 ansZ)
  have HR := Lib.hid (hR.ext EW.out)
  have lR := hR.1.lt
  have lM := hR.2.2.1.lt
  have HWW := Lib.hid hW
  have HSZ := Lib.hid hs
  clear hW hR hs
  show Calls _ _ #[.pointer (some ⟨R, 0, none⟩), .agg #[.int .i64 1, .string s, .int .i64 x, .int .i64 y, .string c1, .int .i64 c2, .string d1, .int .i64 d2, .int .i64 d3, .slice A n c]] _ _
  obtain ⟨k0, k1, k2, k3, -⟩ := ten_cells K0.out
  have lk := K0.out.lt
  go_enter Tryz.func64, Tryz.ntmps64
  go_wp2_with (fail)
  go_at_call 103
  rw [← HWW.out]
  refine (HG.out _ HR.out).mono ?_
  rintro e w1 ⟨b, rfl, hB, hE⟩
  have kb := blk_new0 w1 84 [.pointer (some ⟨b, 0, none⟩)]
  have HE1 := Lib.hid (hE.trans' (ext1 w1 (decBox b)))
  clear hB hE k0 k1 k2 k3 lk kb
  obtain ⟨Y, hY⟩ : ∃ Y, Y = w1.alloc (decBox b) := ⟨_, rfl⟩
  rw [← hY] at HE1
  have KY := Lib.hid (K1.out.ext HE1.out)
  have RY := Lib.hid (show RegM Y R M g ∧ Only2 R M w Y from ⟨HR.out.ext HE1.out, (EW.out.trans' HE1.out).two⟩)
  have HY := Lib.hid hY
  clear hY
  go_upto_region 22 with fail
  rw [← HY.out]
  obtain ⟨a0, a1, a2, a3, a4, a5, a6, a7, a8, a9, la⟩ := ten_cells KY.out
  have f0 := KY.out.frozen 0; have f1 := KY.out.frozen 1; have f2 := KY.out.frozen 2; have f3 := KY.out.frozen 3; have f4 := KY.out.frozen 4; have f5 := KY.out.frozen 5; have f6 := KY.out.frozen 6; have f7 := KY.out.frozen 7; have f8 := KY.out.frozen 8; have f9 := KY.out.frozen 9
  have HF := Lib.hid (u_fin KY.out RY.out.1 RY.out.2 (by omega) (by omega) (by omega))
  go_wp2
  obtain ⟨Z, hZ, KZ, RZ⟩ := HF.out
  rw [← hZ]
  obtain ⟨z0, z1, z2, z3, z4, z5, z6, z7, z8, z9, -⟩ := ten_cells KZ
  exact bodyPost_ret (v := .agg #[.bool false, .string ⟨#[]⟩, .int .i64 0, .int .i64 0, .string ⟨#[]⟩, .int .i64 0, .string ⟨#[]⟩, .int .i64 0, .int .i64 0, .slice none 0 0]) (by simp [results, Tryz.results64, go_sem, z0, z1, z2, z3, z4, z5, z6, z7, z8, z9]) rfl ⟨rfl, RZ⟩

set_option maxRecDepth 100000 in
theorem uStep3S (R M : Nat) (g : Rg) (s : ByteArray) (x y : Int) (c1 : ByteArray) (c2 : Int) (d1 : ByteArray) (d2 d3 : Int) (A : Option Addr) (n c : Nat) (w : World) (hR : RegM w R M g) (hs : s.size ≤ maxLen) (hb : g.base ≠ ⟨#[]⟩) :
    Calls Tryz.prog 64 #[.pointer (some ⟨R, 0, none⟩), .agg (St.cells ⟨3, s, x, y, c1, c2, d1, d2, d3, A, n, c⟩).toArray] w (RetU R M ⟨true, g.base, 0, 0⟩ g w) := by
  have HG := Lib.hid (fun W (h : RegM W R M g) => tBase R M g W h)
  obtain ⟨B, hB⟩ : ∃ B, B = g.base := ⟨_, rfl⟩
  rw [← hB] at HG hb
  rw [← hB]
  have HNE := Lib.hid hb
  clear hB hb
  obtain ⟨W, hW⟩ : ∃ W, W = (w.alloc (.cells #[.int .i64 3, .string s, .int .i64 x, .int .i64 y, .string c1, .int .i64 c2, .string d1, .int .i64 d2, .int .i64 d3, .slice A n c] 50)).alloc ans0 := ⟨_, rfl⟩
  have EW := Lib.hid (show Ext w W by rw [hW]; exact ext2 _ _ _)
  have K0 := Lib.hid (show Blk W w.heap.size 50 [.int .i64 3, .string s, .int .i64 x, .int .i64 y, .string c1, .int .i64 c2, .string d1, .int .i64 d2, .int .i64 d3, .slice A n c] by rw [hW]; exact (blk_new0 w 50 [.int .i64 3, .string s, .int .i64 x, .int .i64 y, .string c1, .int .i64 c2, .string d1, .int .i64 d2, .int .i64 d3, .slice A n c]).alloc _)
  have K1 := Lib.hid (show Blk W (w.heap.size + 1) 60 ansZ by rw [hW]; exact blk_new1 w _ 60 ansZ)
  have HR := Lib.hid (hR.ext EW.out)
  have lR := hR.1.lt
  have lM := hR.2.2.1.lt
  have HWW := Lib.hid hW
  have HSZ := Lib.hid hs
  clear hW hR hs
  show Calls _ _ #[.pointer (some ⟨R, 0, none⟩), .agg #[.int .i64 3, .string s, .int .i64 x, .int .i64 y, .string c1, .int .i64 c2, .string d1, .int .i64 d2, .int .i64 d3, .slice A n c]] _ _
  obtain ⟨k0, k1, k2, k3, -⟩ := ten_cells K0.out
  have lk := K0.out.lt
  go_enter Tryz.func64, Tryz.ntmps64
  go_wp2_with (fail)
  go_at_call 106
  rw [← HWW.out]
  refine (HG.out _ HR.out).mono ?_
  rintro e w1 ⟨v, rfl, hv, hE⟩
  have KA0 := Lib.hid (K1.out.ext hE)
  have HE1 := Lib.hid hE
  have RW0 := Lib.hid (show RegM w1 R M g ∧ Only2 R M w w1 from ⟨HR.out.ext HE1.out, (EW.out.trans' HE1.out).two⟩)
  have KA := KA0.out
  have RW := RW0
  have g0 := KA0.out.lt
  have f0' := KA0.out.frozen 0; have f1' := KA0.out.frozen 1
  have q0 : w1.cell? ⟨w.heap.size + 1, 0, none⟩ = some (.bool false) := (KA0.out.cell 0).trans rfl
  have q1 : w1.cell? ⟨w.heap.size + 1, 1, none⟩ = some (.string ⟨#[]⟩) := (KA0.out.cell 1).trans rfl
  clear hE k0 k1 k2 k3 lk
  obtain ⟨hne, rfl⟩ := hv.resolve_right (fun h => HNE.out h.1)
  clear hne hv
  go_upto_region 13 with fail
  go_region
  obtain ⟨a0, a1, a2, a3, a4, a5, a6, a7, a8, a9, la⟩ := ten_cells KA
  have f0 := KA.frozen 0; have f1 := KA.frozen 1; have f2 := KA.frozen 2; have f3 := KA.frozen 3
  obtain ⟨Y, hY⟩ : ∃ Y, Y = (((w1.setCell ⟨w.heap.size + 1, 1, none⟩ (.string B)).setCell ⟨w.heap.size + 1, 0, none⟩ (.bool true))).drew := ⟨_, rfl⟩
  have KY := Lib.hid (show Blk Y (w.heap.size + 1) 60 [.bool true, .string B, .int .i64 0, .int .i64 0, .string ⟨#[]⟩, .int .i64 0, .string ⟨#[]⟩, .int .i64 0, .int .i64 0, .slice none 0 0] by rw [hY]; exact ((((((KA).set_ 1 (.string B))).set_ 0 (.bool true))).drewN 1))
  have RY := Lib.hid (show RegM Y R M g ∧ Only2 R M w Y by rw [hY]; exact ⟨((((RW.out.1).set_ (KA) (by omega) (by omega) 1 _)).set_ (((KA).set_ 1 (.string B))) (by omega) (by omega) 0 _), ((((((RW.out.2).setNew (by omega) 1 _)).setNew (by omega) 0 _)).trans' (Ext.drewN' _ 1).two)⟩)
  have HY := Lib.hid hY
  clear KA hY
  go_upto_region 22 with fail
  rw [← HY.out]
  clear a0 a1 a2 a3 a4 a5 a6 a7 a8 a9 la f0 f1 f2 f3 g0 f0' f1' q0 q1
  obtain ⟨a0, a1, a2, a3, a4, a5, a6, a7, a8, a9, la⟩ := ten_cells KY.out
  have f0 := KY.out.frozen 0; have f1 := KY.out.frozen 1; have f2 := KY.out.frozen 2; have f3 := KY.out.frozen 3; have f4 := KY.out.frozen 4; have f5 := KY.out.frozen 5; have f6 := KY.out.frozen 6; have f7 := KY.out.frozen 7; have f8 := KY.out.frozen 8; have f9 := KY.out.frozen 9
  have HF := Lib.hid (u_fin KY.out RY.out.1 RY.out.2 (by omega) (by omega) (by omega))
  go_wp2
  obtain ⟨Z, hZ, KZ, RZ⟩ := HF.out
  rw [← hZ]
  obtain ⟨z0, z1, z2, z3, z4, z5, z6, z7, z8, z9, -⟩ := ten_cells KZ
  exact bodyPost_ret (v := .agg #[.bool true, .string B, .int .i64 0, .int .i64 0, .string ⟨#[]⟩, .int .i64 0, .string ⟨#[]⟩, .int .i64 0, .int .i64 0, .slice none 0 0]) (by simp [results, Tryz.results64, go_sem, z0, z1, z2, z3, z4, z5, z6, z7, z8, z9]) rfl ⟨rfl, RZ⟩

set_option maxRecDepth 100000 in
theorem uStep3N (R M : Nat) (g : Rg) (s : ByteArray) (x y : Int) (c1 : ByteArray) (c2 : Int) (d1 : ByteArray) (d2 d3 : Int) (A : Option Addr) (n c : Nat) (w : World) (hR : RegM w R M g) (hs : s.size ≤ maxLen) (hb : g.base = ⟨#[]⟩) :
    Calls Tryz.prog 64 #[.pointer (some ⟨R, 0, none⟩), .agg (St.cells ⟨3, s, x, y, c1, c2, d1, d2, d3, A, n, c⟩).toArray] w (RetU R M ⟨false, ⟨#[]⟩, 0, 0⟩ g w) := by
  have HG := Lib.hid (fun W (h : RegM W R M g) => tBase R M g W h)
  rw [hb] at HG
  clear hb
  obtain ⟨W, hW⟩ : ∃ W, W = (w.alloc (.cells #[.int .i64 3, .string s, .int .i64 x, .int .i64 y, .string c1, .int .i64 c2, .string d1, .int .i64 d2, .int .i64 d3, .slice A n c] 50)).alloc ans0 := ⟨_, rfl⟩
  have EW := Lib.hid (show Ext w W by rw [hW]; exact ext2 _ _ _)
  have K0 := Lib.hid (show Blk W w.heap.size 50 [.int .i64 3, .string s, .int .i64 x, .int .i64 y, .string c1, .int .i64 c2, .string d1, .int .i64 d2, .int .i64 d3, .slice A n c] by rw [hW]; exact (blk_new0 w 50 [.int .i64 3, .string s, .int .i64 x, .int .i64 y, .string c1, .int .i64 c2, .string d1, .int .i64 d2, .int .i64 d3, .slice A n c]).alloc _)
  have K1 := Lib.hid (show Blk W (w.heap.size + 1) 60 ansZ by rw [hW]; exact blk_new1 w _ 60 ansZ)
  have HR := Lib.hid (hR.ext EW.out)
  have lR := hR.1.lt
  have lM := hR.2.2.1.lt
  have HWW := Lib.hid hW
  have HSZ := Lib.hid hs
  clear hW hR hs
  show Calls _ _ #[.pointer (some ⟨R, 0, none⟩), .agg #[.int .i64 3, .string s, .int .i64 x, .int .i64 y, .string c1, .int .i64 c2, .string d1, .int .i64 d2, .int .i64 d3, .slice A n c]] _ _
  obtain ⟨k0, k1, k2, k3, -⟩ := ten_cells K0.out
  have lk := K0.out.lt
  go_enter Tryz.func64, Tryz.ntmps64
  go_wp2_with (fail)
  go_at_call 106
  rw [← HWW.out]
  refine (HG.out _ HR.out).mono ?_
  rintro e w1 ⟨v, rfl, hv, hE⟩
  have KA0 := Lib.hid (K1.out.ext hE)
  have HE1 := Lib.hid hE
  have RW0 := Lib.hid (show RegM w1 R M g ∧ Only2 R M w w1 from ⟨HR.out.ext HE1.out, (EW.out.trans' HE1.out).two⟩)
  have KA := KA0.out
  have RW := RW0
  have g0 := KA0.out.lt
  have f0' := KA0.out.frozen 0; have f1' := KA0.out.frozen 1
  have q0 : w1.cell? ⟨w.heap.size + 1, 0, none⟩ = some (.bool false) := (KA0.out.cell 0).trans rfl
  have q1 : w1.cell? ⟨w.heap.size + 1, 1, none⟩ = some (.string ⟨#[]⟩) := (KA0.out.cell 1).trans rfl
  clear hE k0 k1 k2 k3 lk
  obtain ⟨-, q, rfl⟩ := hv.resolve_left (fun h => h.1 rfl)
  clear hv
  go_upto_region 13 with fail
  go_region
  obtain ⟨a0, a1, a2, a3, a4, a5, a6, a7, a8, a9, la⟩ := ten_cells KA
  have f0 := KA.frozen 0; have f1 := KA.frozen 1; have f2 := KA.frozen 2; have f3 := KA.frozen 3
  obtain ⟨Y, hY⟩ : ∃ Y, Y = (((w1.setCell ⟨w.heap.size + 1, 1, none⟩ (.string ⟨#[]⟩)).setCell ⟨w.heap.size + 1, 0, none⟩ (.bool false))).drew := ⟨_, rfl⟩
  have KY := Lib.hid (show Blk Y (w.heap.size + 1) 60 [.bool false, .string ⟨#[]⟩, .int .i64 0, .int .i64 0, .string ⟨#[]⟩, .int .i64 0, .string ⟨#[]⟩, .int .i64 0, .int .i64 0, .slice none 0 0] by rw [hY]; exact ((((((KA).set_ 1 (.string ⟨#[]⟩))).set_ 0 (.bool false))).drewN 1))
  have RY := Lib.hid (show RegM Y R M g ∧ Only2 R M w Y by rw [hY]; exact ⟨((((RW.out.1).set_ (KA) (by omega) (by omega) 1 _)).set_ (((KA).set_ 1 (.string ⟨#[]⟩))) (by omega) (by omega) 0 _), ((((((RW.out.2).setNew (by omega) 1 _)).setNew (by omega) 0 _)).trans' (Ext.drewN' _ 1).two)⟩)
  have HY := Lib.hid hY
  clear KA hY
  go_upto_region 22 with fail
  rw [← HY.out]
  clear a0 a1 a2 a3 a4 a5 a6 a7 a8 a9 la f0 f1 f2 f3 g0 f0' f1' q0 q1
  obtain ⟨a0, a1, a2, a3, a4, a5, a6, a7, a8, a9, la⟩ := ten_cells KY.out
  have f0 := KY.out.frozen 0; have f1 := KY.out.frozen 1; have f2 := KY.out.frozen 2; have f3 := KY.out.frozen 3; have f4 := KY.out.frozen 4; have f5 := KY.out.frozen 5; have f6 := KY.out.frozen 6; have f7 := KY.out.frozen 7; have f8 := KY.out.frozen 8; have f9 := KY.out.frozen 9
  have HF := Lib.hid (u_fin KY.out RY.out.1 RY.out.2 (by omega) (by omega) (by omega))
  go_wp2
  obtain ⟨Z, hZ, KZ, RZ⟩ := HF.out
  rw [← hZ]
  obtain ⟨z0, z1, z2, z3, z4, z5, z6, z7, z8, z9, -⟩ := ten_cells KZ
  exact bodyPost_ret (v := .agg #[.bool false, .string ⟨#[]⟩, .int .i64 0, .int .i64 0, .string ⟨#[]⟩, .int .i64 0, .string ⟨#[]⟩, .int .i64 0, .int .i64 0, .slice none 0 0]) (by simp [results, Tryz.results64, go_sem, z0, z1, z2, z3, z4, z5, z6, z7, z8, z9]) rfl ⟨rfl, RZ⟩

end Go.Proofs.YtcoffndnfaemoaaGreatDoor

namespace Go.Proofs.YtcoffndnfaemoaaGreatDoor
open Go Go.RowKit

theorem reg_fit {z : Int} (h : z.natAbs ≤ 4000000000001 * 1000000000000000000) : FitT z := by unfold FitT; omega
/-- A step that is spoken of here. -/
structure OkSt (s : St) : Prop where
  kind : s.kind = 0 ∨ s.kind = 1 ∨ s.kind = 3
  dec : DecB s.uw s.uf
  size : s.denom.size ≤ maxLen
theorem OkSt.fit {s : St} (h : OkSt s) : FitT (decV s.uw s.uf) := reg_fit (by
  have := decB_abs h.dec
  have := h.dec
  unfold DecB at this; unfold decV T18; omega)
theorem uStep (R M n : Nat) (g : Rg) (s : St) (w : World) (hR : RegM w R M g) (hk : OkSt s) (hf : g.few n) (hn : n < 1000000) (hT : Thr w) :
    Calls Tryz.prog 64 #[.pointer (some ⟨R, 0, none⟩), .agg s.cells.toArray] w (RetU R M (g.step s).1 (g.step s).2 w) := by
  obtain ⟨k, d, x, y, c1, c2, d1, d2, d3, A, m, c⟩ := s
  obtain ⟨hkind, hD, hs⟩ := hk
  simp only at hkind hD hs
  rcases hkind with rfl | rfl | rfl
  · by_cases hp : 0 < decV x y
    · have e : g.step ⟨0, d, x, y, c1, c2, d1, d2, d3, A, m, c⟩ = (⟨(g.reg d (decV x y)).1, ⟨#[]⟩, 0, 0⟩, (g.reg d (decV x y)).2) := by
        unfold Rg.step; rw [if_pos rfl]; simp only; rw [if_pos hp]
      rw [e]
      exact uStep0T R M g d x y c1 c2 d1 d2 d3 A m c w hR hs hD hT (by have := hf.1; omega) hp
    · have e : g.step ⟨0, d, x, y, c1, c2, d1, d2, d3, A, m, c⟩ = (⟨false, ⟨#[]⟩, 0, 0⟩, g) := by
        unfold Rg.step; rw [if_pos rfl]; simp only; rw [if_neg hp]
      rw [e]
      exact uStep0F R M g d x y c1 c2 d1 d2 d3 A m c w hR hs hD hT hp
  · cases ho : g.unit d with
    | some z =>
      have e : g.step ⟨1, d, x, y, c1, c2, d1, d2, d3, A, m, c⟩ = (⟨true, ⟨#[]⟩, Int.tdiv z T18, Int.tmod z T18⟩, g) := by
        unfold Rg.step; rw [if_neg (show ¬ (1 : Int) = 0 by decide), if_pos rfl]; simp only; rw [ho]
      rw [e]
      exact uStep1S R M g d x y c1 c2 d1 d2 d3 A m c w hR hs ho (hf.2 d z (by unfold Rg.unit at ho; split at ho; exact ho; cases ho))
    | none =>
      have e : g.step ⟨1, d, x, y, c1, c2, d1, d2, d3, A, m, c⟩ = (⟨false, ⟨#[]⟩, 0, 0⟩, g) := by
        unfold Rg.step; rw [if_neg (show ¬ (1 : Int) = 0 by decide), if_pos rfl]; simp only; rw [ho]
      rw [e]
      exact uStep1N R M g d x y c1 c2 d1 d2 d3 A m c w hR hs ho
  · have e : g.step ⟨3, d, x, y, c1, c2, d1, d2, d3, A, m, c⟩ = (⟨decide (g.base ≠ ⟨#[]⟩), g.base, 0, 0⟩, g) := by
      unfold Rg.step; rw [if_neg (show ¬ (3 : Int) = 0 by decide), if_neg (show ¬ (3 : Int) = 1 by decide)]
    rw [e]
    by_cases hb : g.base = ⟨#[]⟩
    · rw [hb, decide_eq_false (by simp)]
      exact uStep3N R M g d x y c1 c2 d1 d2 d3 A m c w hR hs hb
    · rw [decide_eq_true hb]
      exact uStep3S R M g d x y c1 c2 d1 d2 d3 A m c w hR hs hb

set_option maxRecDepth 100000 in
theorem tNewReg (w : World) : Calls Tryz.prog 63 #[] w (fun e w' => ∃ R M, e = .returned (.pointer (some ⟨R, 0, none⟩)) ∧ RegM w' R M ⟨[], ⟨#[]⟩⟩ ∧ w.heap.size ≤ R ∧ w.heap.size ≤ M ∧ Ext w w') := by
  have hmm := makeMapU w
  go_enter Tryz.func63, Tryz.ntmps63
  go_wp2
  go_ret
  refine ⟨w.heap.size + 1, w.heap.size, ?_, ⟨?_, by omega, (umap_made w).ext (ext1 _ _), by decide, Or.inl rfl⟩, by omega, Nat.le_refl _, ext2 _ _ _⟩
  · simp
  · exact blk_new1 w _ 141 [.map (some w.heap.size), .string ⟨#[]⟩]
theorem after_few (l : List St) (h : ∀ s ∈ l, OkSt s) : ∀ (g : Rg) (n : Nat), g.few n → (g.after l).few (n + l.length) := by
  induction l with
  | nil => exact fun g n h => h
  | cons s r ih =>
    intro g n hg
    have := ih (fun x hx => h x (List.mem_cons_of_mem _ hx)) (g.step s).2 (n + 1) (Rg.step_few hg s (fun _ => (h s List.mem_cons_self).fit))
    rw [List.length_cons, show n + (r.length + 1) = n + 1 + r.length by omega]
    exact this

theorem owns_low {w : World} {b b' n k : Nat} {E : TypeId} {v : Value} {xs : List Value} (h : w.ownsRow b E k v n xs) (hb : b' ≤ b) : w.ownsRow b' E k v n xs := by
  refine ⟨h.1, ?_⟩
  rcases h.2 with h2 | ⟨g, cap, cur, hv, hg, r⟩
  · exact Or.inl h2
  · exact Or.inr ⟨g, cap, cur, hv, Nat.le_trans hb hg, r⟩
set_option maxRecDepth 100000 in
set_option maxHeartbeats 1000000 in
theorem iUnits (A : Option Addr) (n c : Nat) (l : List St) (w : World) (hl : l.length = n) (hn : n ≤ 1000) (h : StepsAt w A l) (hok : ∀ s ∈ l, OkSt s) (hT : Thr w) :
    Calls Tryz.prog 28 #[.slice A n c] w (RetAns (Rg.answers ⟨[], ⟨#[]⟩⟩ l) w) := by
  obtain ⟨i0, hi, hz0, hz1, hz2⟩ := info_parts infoAns
  have HL := Lib.hid hl; have HP := Lib.hid h; have HK := Lib.hid hok; have TT := Lib.hid hT
  clear hl h hok hT
  go_enter Tryz.func28, Tryz.ntmps28
  go_wp2_with (fail)
  go_at_call 63
  refine (tNewReg _).mono ?_
  rintro e w1 ⟨R, M, rfl, hR, h1, h2, hE⟩
  have HR := Lib.hid hR; have HE1 := Lib.hid hE
  have lR := hR.1.lt; have lM := hR.2.2.1.lt
  clear hR hE
  go_wp2
  go_loopw [4, 10] (fun v i wr => ∃ (k : Nat) (an : List An), k ≤ n ∧ i = .int .i64 k ∧ an.length = k ∧ an = Rg.answers ⟨[], ⟨#[]⟩⟩ (l.take k) ∧ RegM wr R M (Rg.after ⟨[], ⟨#[]⟩⟩ (l.take k)) ∧ AnsOwn wr w1.heap.size v an ∧ Only2 R M w1 wr) (fun _ i _ => n - (intOf i).toNat)
  case atStart => exact ⟨0, [], Nat.zero_le _, rfl, rfl, rfl, HR.out, AnsOwn.nil _ _, (Ext.refl _).two⟩
  case round =>
    obtain ⟨k, an, hk, rfl, hal, has, hreg, hown, hO⟩ := hrel
    have HA := Lib.hid hal; have HV := Lib.hid has; have HO := Lib.hid hown; have HO2 := Lib.hid hO
    have HE := Lib.hid (show Ext w wr from Only2.ext HE1.out hO h1 h2)
    obtain ⟨g, hg⟩ : ∃ g, g = Rg.after ⟨[], ⟨#[]⟩⟩ (l.take k) := ⟨_, rfl⟩
    rw [← hg] at hreg
    have HRG := Lib.hid hreg; have HG := Lib.hid hg
    have HF := Lib.hid (show g.few k by
      rw [hg]
      have := after_few (l.take k) (fun s hs => HK.out s (List.mem_of_mem_take hs)) ⟨[], ⟨#[]⟩⟩ 0 ⟨Nat.le_refl _, fun s z h => by cases h⟩
      rw [List.length_take, HL.out, Nat.min_eq_left hk, Nat.zero_add] at this
      exact this)
    clear hal has hown hO hg hreg
    by_cases hlt : k < n
    · have hkl : k < l.length := by rw [HL.out]; exact hlt
      obtain ⟨s, hs⟩ : ∃ s, s = l[k] := ⟨_, rfl⟩
      have HKS := Lib.hid (show OkSt s by rw [hs]; exact HK.out _ (List.getElem_mem _))
      obtain ⟨gb, o, hAg, hc⟩ := HP.out (by intro e; rw [e] at hkl; simp at hkl)
      subst hAg
      have hcell := st_get hc k hkl s hs.symm
      have HTK := Lib.hid (show l.take (k + 1) = l.take k ++ [s] by rw [hs]; exact List.take_succ_eq_append_getElem hkl)
      clear hs hc
      obtain ⟨⟨ok, dn, uu, ff⟩, ha⟩ : ∃ a, a = (g.step s).1 := ⟨_, rfl⟩
      obtain ⟨g2, hg2⟩ : ∃ g2, g2 = (g.step s).2 := ⟨_, rfl⟩
      have HU := Lib.hid (fun W (hr : RegM W R M g) (t : Thr W) => uStep R M k g s W hr HKS.out HF.out (by omega) t)
      rw [← ha, ← hg2] at HU
      have HST := Lib.hid (show g.step s = (⟨ok, dn, uu, ff⟩, g2) by rw [ha, hg2])
      clear ha hg2
      obtain ⟨q0, q1, q2, q3, q4, q5, q6, q7, q8, q9⟩ := hcell
      have r0 := HE.out.cell' q0; have r1 := HE.out.cell' q1; have r2 := HE.out.cell' q2; have r3 := HE.out.cell' q3; have r4 := HE.out.cell' q4
      have r5 := HE.out.cell' q5; have r6 := HE.out.cell' q6; have r7 := HE.out.cell' q7; have r8 := HE.out.cell' q8; have r9 := HE.out.cell' q9
      clear q0 q1 q2 q3 q4 q5 q6 q7 q8 q9
      go_wp2_with (fail)
      go_at_call 64
      refine (HU.out _ (HRG.out.ext (Ext.alloc' _ _)) (TT.out.ext (HE.out.trans' (Ext.alloc' _ _)))).mono ?_
      rintro e w2 ⟨he, hR2, hO2⟩
      obtain rfl : e = .returned (.agg #[.bool ok, .string dn, .int .i64 uu, .int .i64 ff, .string ⟨#[]⟩, .int .i64 0, .string ⟨#[]⟩, .int .i64 0, .int .i64 0, .slice none 0 0]) := he
      have HR2 := Lib.hid hR2
      have HO3 := Lib.hid (show Only2 R M w1 w2 from (HO2.out.trans' (Ext.alloc' _ _).two).trans' hO2)
      have HOW := Lib.hid (show AnsOwn w2 w1.heap.size u4 an from owns_two (owns_ext HO.out (Ext.alloc' _ _)) hO2 lR lM)
      have hsz := HO3.out.size
      clear hR2 hO2 r0 r1 r2 r3 r4 r5 r6 r7 r8 r9
      have HNW := Lib.hid (show ∀ j u, ([.bool ok, .string dn, .int .i64 uu, .int .i64 ff, .string ⟨#[]⟩, .int .i64 0, .string ⟨#[]⟩, .int .i64 0, .int .i64 0, .slice none 0 0] : List Value)[j]? = some u → (w2.alloc (.cells #[.bool ok, .string dn, .int .i64 uu, .int .i64 ff, .string ⟨#[]⟩, .int .i64 0, .string ⟨#[]⟩, .int .i64 0, .int .i64 0, .slice none 0 0] 60)).cell? ((⟨w2.heap.size, 0, none⟩ : Addr).add j) = some u from cells_new w2 [.bool ok, .string dn, .int .i64 uu, .int .i64 ff, .string ⟨#[]⟩, .int .i64 0, .string ⟨#[]⟩, .int .i64 0, .int .i64 0, .slice none 0 0] 60)
      have HOX := Lib.hid (show (w2.alloc (.cells #[.bool ok, .string dn, .int .i64 uu, .int .i64 ff, .string ⟨#[]⟩, .int .i64 0, .string ⟨#[]⟩, .int .i64 0, .int .i64 0, .slice none 0 0] 60)).ownsRow w1.heap.size 60 10 u4 an.length (flat10 An.cells an) from owns_ext HOW.out (ext1 _ _))
      have HT1 := Lib.hid (show ∀ u ∈ ([.bool ok, .string dn, .int .i64 uu, .int .i64 ff, .string ⟨#[]⟩, .int .i64 0, .string ⟨#[]⟩, .int .i64 0, .int .i64 0, .slice none 0 0] : List Value), u.oneCell' = true from ten_one ⟨ok, dn, uu, ff⟩)
      go_wp2_with (at_builtin; refine wpList_append_own_at _ rfl (.tmp 14) (.tmp 18) 56 rfl w1.heap.size 60 i0 _ 10 120 Tryz.underlying56 hi hz0 hz1 hz2 rfl (by decide) u4 an.length (flat10 An.cells an) rfl HOX.out ⟨w2.heap.size, 0, none⟩ 1 1 [.bool ok, .string dn, .int .i64 uu, .int .i64 ff, .string ⟨#[]⟩, .int .i64 0, .string ⟨#[]⟩, .int .i64 0, .int .i64 0, .slice none 0 0] rfl rfl HNW.out HT1.out (by rw [HA.out]; unfold maxLen; omega) (by rw [HA.out]; omega) (by simp; omega) ?_; intro v' w3 hown hgrow _ _; have RR := Lib.hid (ans_push (x := ⟨ok, dn, uu, ff⟩) (HOW.out.ext (ext1 _ _)) (HR2.out.ext (ext1 _ _)) (HO3.out.trans' (ext1 _ _).two) lR lM (Nat.le_refl _) hown hgrow); clear hown hgrow)
      go_roundw
      case rel =>
        refine ⟨k + 1, an ++ [⟨ok, dn, uu, ff⟩], by omega, by go_num, by simp [HA.out], ?_, ?_, RR.out.1, RR.out.2.2⟩
        · rw [HTK.out, Rg.answers_snoc, ← HV.out, ← HG.out, HST.out]
        · rw [HTK.out, Rg.after_snoc, ← HG.out, HST.out]; exact RR.out.2.1
      case measure => simp [intOf]; omega
    · obtain rfl : k = n := by omega
      go_wp2
      go_ret
      refine ⟨_, rfl, ?_, HE.out⟩
      have hv := HV.out
      rw [List.take_of_length_le (by rw [HL.out]; exact Nat.le_refl _)] at hv
      rw [← hv]
      exact owns_low HO.out HE1.out.size
end Go.Proofs.YtcoffndnfaemoaaGreatDoor

namespace Go.Proofs.YtcoffndnfaemoaaGreatDoor
open Go Go.RowKit

/-- Is a decimal between -10^9 and 10^9? -/
def rateB (y z : Int) : Bool := decisB y z && decide (-1000000000 ≤ y ∧ y ≤ 1000000000)
set_option maxRecDepth 100000 in
theorem lRateIs (y z : Int) (w : World) : Calls Tryz.prog 26 #[.agg #[.int .i64 y, .int .i64 z]] w (RetE (.bool (rateB y z)) w) := by
  unfold rateB
  have H := Lib.hid (dIs y z)
  obtain ⟨b, hb⟩ : ∃ b, b = decisB y z := ⟨_, rfl⟩
  rw [← hb] at H ⊢
  clear hb
  have k := blk_new0 w 24 [.int .i64 y, .int .i64 z]
  have K := Lib.hid k
  clear k
  cases b
  · rw [Bool.false_and]
    go_enter Tryz.func26, Tryz.ntmps26
    go_wp2_with (fail)
    go_at_call 13
    refine (H.out _).mono ?_
    rintro e w1 ⟨rfl, hE⟩
    have HE := Lib.hid ((ext1 _ _).trans' hE)
    clear hE
    go_wp2
    go_ret
    exact ⟨rfl, HE.out⟩
  · rw [Bool.true_and]
    obtain ⟨r, hr⟩ : ∃ r, r = decide (-1000000000 ≤ y ∧ y ≤ 1000000000) := ⟨_, rfl⟩
    have HR := Lib.hid (show (decide (-1000000000 ≤ y) && decide (y ≤ 1000000000)) = r by rw [hr]; exact (Bool.decide_and _ _).symm)
    rw [← hr]
    clear hr
    go_enter Tryz.func26, Tryz.ntmps26
    go_wp2_with (fail)
    go_at_call 13
    refine (H.out _).mono ?_
    rintro e w1 ⟨rfl, hE⟩
    have c0 : w1.cell? ⟨w.heap.size, 0, none⟩ = some (.int .i64 y) := ((K.out.ext hE).cell 0).trans rfl
    have l0 := cell_lt c0
    have HE := Lib.hid ((ext1 _ _).trans' hE)
    clear hE
    have hrr := HR.out
    obtain ⟨p, hp⟩ : ∃ p, p = decide (-1000000000 ≤ y) := ⟨_, rfl⟩
    obtain ⟨q, hq⟩ : ∃ q, q = decide (y ≤ 1000000000) := ⟨_, rfl⟩
    rw [← hp, ← hq] at hrr
    subst hrr
    cases p
    · have hp' : ¬ (-1000000000 ≤ y) := of_decide_eq_false hp.symm
      clear hp hq HR
      go_wp2
      go_ret
      exact ⟨rfl, HE.out⟩
    · have hp' : -1000000000 ≤ y := of_decide_eq_true hp.symm
      cases q
      · have hq' : ¬ (y ≤ 1000000000) := of_decide_eq_false hq.symm
        clear hp hq HR
        go_wp2
        go_ret
        exact ⟨by show Ending.returned (.bool (decide (y ≤ 1000000000))) = _; rw [decide_eq_false (by omega)]; rfl, HE.out⟩
      · have hq' : y ≤ 1000000000 := of_decide_eq_true hq.symm
        clear hp hq HR
        go_wp2
        go_ret
        exact ⟨rfl, HE.out⟩
theorem steps_new (W : World) (l : List St) (T : TypeId) : StepsAt (W.alloc (.cells (flat10 St.cells l).toArray T)) (some ⟨W.heap.size, 0, none⟩) l := fun _ => ⟨W.heap.size, 0, rfl, fun j hj i u hu => by
  have hi : i < 10 := by
    have := (List.getElem?_eq_some_iff.1 hu).1
    rw [St.cells_length] at this; exact this
  rw [Nat.zero_add, (Blk.new W T (flat10 St.cells l)).cell, flat10_get St.cells_length l j i hj hi]; exact hu⟩
theorem ans_get {w : World} {A : Option Addr} {l : List An} (h : At10 An.cells w A l) (hn : l ≠ []) : ∃ g o, A = some ⟨g, o, none⟩ ∧ ∀ j (hj : j < l.length), w.cell? ⟨g, o + j * 10, none⟩ = some (.bool l[j].ok) ∧ w.cell? ⟨g, o + j * 10 + 1, none⟩ = some (.string l[j].denom) ∧ w.cell? ⟨g, o + j * 10 + 2, none⟩ = some (.int .i64 l[j].uw) ∧ w.cell? ⟨g, o + j * 10 + 3, none⟩ = some (.int .i64 l[j].uf) := by
  obtain ⟨g, o, rfl, hc⟩ := h hn
  exact ⟨g, o, rfl, fun j hj => ⟨hc j hj 0 _ rfl, hc j hj 1 _ rfl, hc j hj 2 _ rfl, hc j hj 3 _ rfl⟩⟩
abbrev kAbc : ByteArray := ⟨#[97, 98, 99]⟩
abbrev kABD : ByteArray := ⟨#[97, 98, 100]⟩
def awakeSteps : List St := [St.plain 0 kAbc 2 0, St.plain 1 kAbc 0 0, St.plain 1 kABD 0 0]
theorem awakeAns : Rg.answers ⟨[], ⟨#[]⟩⟩ awakeSteps = [⟨true, ⟨#[]⟩, 0, 0⟩, ⟨true, ⟨#[]⟩, 2, 0⟩, ⟨false, ⟨#[]⟩, 0, 0⟩] := by kernel_rfl
theorem awakeOk : ∀ s ∈ awakeSteps, OkSt s := by
  intro s hs
  simp only [awakeSteps, List.mem_cons, List.not_mem_nil, or_false] at hs
  rcases hs with rfl | rfl | rfl
  · exact ⟨Or.inl rfl, by show DecB 2 0; unfold DecB; omega, by decide⟩
  · exact ⟨Or.inr (Or.inl rfl), by show DecB 0 0; unfold DecB; omega, by decide⟩
  · exact ⟨Or.inr (Or.inl rfl), by show DecB 0 0; unfold DecB; omega, by decide⟩

set_option maxRecDepth 100000 in
set_option maxHeartbeats 1000000 in
theorem rateAwake (w : World) (hT : Thr w) : Calls Tryz.prog 24 #[] w (RetE (.bool true) w) := by
  obtain ⟨X, hX⟩ : ∃ X : Obj, X = .cells (flat10 St.cells awakeSteps).toArray 50 := ⟨_, rfl⟩
  have HX := Lib.hid hX
  have hs := steps_new w awakeSteps 50
  rw [← hX] at hs
  have H := Lib.hid (iUnits _ 3 3 awakeSteps _ rfl (by omega) hs awakeOk (hT.ext (ext1 w X)))
  rw [awakeAns] at H
  clear hs hT hX
  go_enter Tryz.func24, Tryz.ntmps24
  go_wp2_with (fail)
  go_at_call 28
  have hX := HX.out
  simp only [awakeSteps, flat10, St.plain, St.cells, List.flatMap_cons, List.flatMap_nil, List.cons_append, List.nil_append] at hX
  rw [← hX]
  refine H.out.mono ?_
  rintro e w1 ⟨v, rfl, ho, hE⟩
  obtain ⟨A, c, rfl, h3, _, hat⟩ := ten_slice An.cells_length ho (n := 3) rfl
  obtain ⟨g, o, rfl, hc⟩ := ans_get hat (by simp)
  obtain ⟨a0, -, -, -⟩ := hc 0 (by simp)
  obtain ⟨b0, -, b2, b3⟩ := hc 1 (by simp)
  obtain ⟨c0, -, -, -⟩ := hc 2 (by simp)
  simp only [List.getElem_cons_zero, List.getElem_cons_succ, Nat.zero_mul, Nat.add_zero, Nat.one_mul] at a0 b0 b2 b3 c0
  have HE := Lib.hid ((ext1 w X).trans' hE)
  clear ho hE hat hc hX
  go_wp2
  go_ret
  exact ⟨rfl, HE.out⟩
end Go.Proofs.YtcoffndnfaemoaaGreatDoor
