/-
  The walk of the law FnCoinsCompare: it returns true.
-/
import Derived.Test.YtagfbefgcijegaaGreatDoorCmpLaw
import Derived.Test.YtagfbefgcijegaaGreatDoorAtMost
import Derived.Test.YtagfbefgcijegaaGreatDoorGH
namespace Go.Proofs.YtagfbefgcijegaaGreatDoor
open Go Go.RowKit

/-- Two variables that hold lists. -/
def L2 (p : Nat) (A : Option Addr) (n c : Nat) (B : Option Addr) (m d : Nat) (w : World) : Prop := w.cell? ⟨p, 0, none⟩ = some (.slice A n c) ∧ w.cell? ⟨p + 1, 0, none⟩ = some (.slice B m d)
theorem L2.ext {p : Nat} {A : Option Addr} {n c : Nat} {B : Option Addr} {m d : Nat} {w w' : World} (h : L2 p A n c B m d w) (e : Ext w w') : L2 p A n c B m d w' := ⟨e.cell' h.1, e.cell' h.2⟩
theorem L2.drew {p : Nat} {A : Option Addr} {n c : Nat} {B : Option Addr} {m d : Nat} {w : World} (h : L2 p A n c B m d w) : L2 p A n c B m d w.drew := h
theorem L2.alloc {p : Nat} {A : Option Addr} {n c : Nat} {B : Option Addr} {m d : Nat} {w : World} (h : L2 p A n c B m d w) (o : Obj) : L2 p A n c B m d (w.alloc o) := h.ext (ext1 _ _)
theorem L2.set1 {p g i : Nat} {A : Option Addr} {n c : Nat} {B : Option Addr} {m d : Nat} {w : World} {u : Value} (h : L2 p A n c B m d w) (h1 : p ≠ g) (h2 : p + 1 ≠ g) : L2 p A n c B m d (w.setCell ⟨g, i, none⟩ u) := ⟨set_far h.1 h1, set_far h.2 h2⟩
abbrev ansZero : Obj := .cells #[.bool false, .bool false, .bool false, .bool false, .bool false, .bool false, .bool false, .bool false] 65
theorem ansE0 {W w1 : World} (h : Ext W.drew w1) : Ext W w1 := Ext.undrew h
theorem ansE1 {W w1 : World} (h : Ext (W.alloc ansZero).drew w1) : Ext W w1 := (ext1 W ansZero).trans' ⟨h.os, h.tape, h.output, h.size, h.block⟩
theorem ansF1 {W w1 : World} (h : Ext (W.alloc ansZero) w1) : Ext W w1 := (ext1 W ansZero).trans' h
theorem ansN1 {W w1 : World} (h : Ext (W.alloc ansZero) w1) : Blk w1 W.heap.size 65 [.bool false, .bool false, .bool false, .bool false, .bool false, .bool false, .bool false, .bool false] := (blk_new0 W 65 [.bool false, .bool false, .bool false, .bool false, .bool false, .bool false, .bool false, .bool false]).ext h
theorem ansM1 {W w1 : World} (h : Ext (W.alloc ansZero).drew w1) : Blk w1 W.heap.size 65 [.bool false, .bool false, .bool false, .bool false, .bool false, .bool false, .bool false, .bool false] := (blk_new0 W 65 [.bool false, .bool false, .bool false, .bool false, .bool false, .bool false, .bool false, .bool false]).ext (show Ext (W.alloc ansZero) w1 from ⟨h.os, h.tape, h.output, h.size, h.block⟩)
theorem ansD {W w1 : World} (h : Ext W w1) : Ext W (w1.alloc ansZero) := h.trans' (ext1 _ _)
theorem ansDD (W : World) : Ext W (W.alloc ansZero).drew := (ext1 W ansZero).trans' (Ext.drewN' _ 1)
theorem ans_facts {w : World} {P : Nat} {b0 b1 b2 b3 b4 b5 b6 b7 : Value} (h : Blk w P 65 [b0, b1, b2, b3, b4, b5, b6, b7]) : w.cell? ⟨P, 0, none⟩ = some b0 ∧ w.frozen? ⟨P, 0, none⟩ = false ∧ w.cell? ⟨P, 1, none⟩ = some b1 ∧ w.frozen? ⟨P, 1, none⟩ = false ∧ w.cell? ⟨P, 2, none⟩ = some b2 ∧ w.frozen? ⟨P, 2, none⟩ = false ∧ w.cell? ⟨P, 3, none⟩ = some b3 ∧ w.frozen? ⟨P, 3, none⟩ = false ∧ w.cell? ⟨P, 4, none⟩ = some b4 ∧ w.frozen? ⟨P, 4, none⟩ = false ∧ w.cell? ⟨P, 5, none⟩ = some b5 ∧ w.frozen? ⟨P, 5, none⟩ = false ∧ w.cell? ⟨P, 6, none⟩ = some b6 ∧ w.frozen? ⟨P, 6, none⟩ = false ∧ w.cell? ⟨P, 7, none⟩ = some b7 ∧ w.frozen? ⟨P, 7, none⟩ = false :=
  ⟨(h.cell 0).trans rfl, h.frozen 0, (h.cell 1).trans rfl, h.frozen 1, (h.cell 2).trans rfl, h.frozen 2, (h.cell 3).trans rfl, h.frozen 3, (h.cell 4).trans rfl, h.frozen 4, (h.cell 5).trans rfl, h.frozen 5, (h.cell 6).trans rfl, h.frozen 6, (h.cell 7).trans rfl, h.frozen 7⟩
/-- A variable that holds the answers. -/
def AnsBox (r0 r1 r2 r3 r4 r5 r6 r7 : Bool) (W : World) (v : Value) (wx : World) : Prop := ∃ P, v = .pointer (some ⟨P, 0, none⟩) ∧ W.heap.size ≤ P ∧ Blk wx P 65 [.bool r0, .bool r1, .bool r2, .bool r3, .bool r4, .bool r5, .bool r6, .bool r7] ∧ Ext W wx
theorem ansBox_new {W w1 : World} (r0 r1 r2 r3 r4 r5 r6 r7 : Bool) (hE : Ext W w1) : AnsBox r0 r1 r2 r3 r4 r5 r6 r7 W (.pointer (some ⟨w1.heap.size, 0, none⟩)) (w1.alloc (.cells #[.bool r0, .bool r1, .bool r2, .bool r3, .bool r4, .bool r5, .bool r6, .bool r7] 65)) := ⟨_, rfl, hE.size, blk_new0 w1 _ [.bool r0, .bool r1, .bool r2, .bool r3, .bool r4, .bool r5, .bool r6, .bool r7], hE.trans' (ext1 _ _)⟩
theorem ansBox_old {W w1 : World} {P : Nat} {a0 a1 a2 a3 a4 a5 a6 a7 : Value} (r0 r1 r2 r3 r4 r5 r6 r7 : Bool) (hK : Blk w1 P 65 [a0, a1, a2, a3, a4, a5, a6, a7]) (hP : W.heap.size ≤ P) (hE : Ext W w1) : AnsBox r0 r1 r2 r3 r4 r5 r6 r7 W (.pointer (some ⟨P, 0, none⟩)) ((((((((w1.setCell ⟨P, 0, none⟩ (.bool r0)).setCell ⟨P, 1, none⟩ (.bool r1)).setCell ⟨P, 2, none⟩ (.bool r2)).setCell ⟨P, 3, none⟩ (.bool r3)).setCell ⟨P, 4, none⟩ (.bool r4)).setCell ⟨P, 5, none⟩ (.bool r5)).setCell ⟨P, 6, none⟩ (.bool r6)).setCell ⟨P, 7, none⟩ (.bool r7)) :=
  ⟨P, rfl, hP, (((((((hK.set_ 0 (.bool r0)).set_ 1 (.bool r1)).set_ 2 (.bool r2)).set_ 3 (.bool r3)).set_ 4 (.bool r4)).set_ 5 (.bool r5)).set_ 6 (.bool r6)).set_ 7 (.bool r7), Only.ext hE (((((((((Only.refl P w1).set_ 0 (.bool r0)).set_ 1 (.bool r1)).set_ 2 (.bool r2)).set_ 3 (.bool r3)).set_ 4 (.bool r4)).set_ 5 (.bool r5)).set_ 6 (.bool r6)).set_ 7 (.bool r7)) hP⟩

theorem any_eq0 (a b : List (ByteArray × Int)) : (!a.all fun x => (decide (totalP x.1 b = 0) || decide (x.2 + 0 ≤ totalP x.1 b))) = anyB a b := by unfold anyB; simp only [Int.add_zero]
theorem any_eq1 (a b : List (ByteArray × Int)) : (!a.all fun x => (decide (totalP x.1 b = 0) || decide (x.2 + 1 ≤ totalP x.1 b))) = anyEB a b := by unfold anyEB; rfl
theorem nodup_len {α : Type} [DecidableEq α] : ∀ {l m : List α}, l.Nodup → (∀ x ∈ l, x ∈ m) → l.length ≤ m.length
  | [], _, _, _ => Nat.zero_le _
  | a :: l, m, h, k => by
    have h1 : a ∈ m := k a (by simp)
    have h2 := nodup_len (l := l) (m := m.erase a) (List.nodup_cons.1 h).2 (fun x hx => (List.mem_erase_of_ne (fun e => (List.nodup_cons.1 h).1 (by rw [← e]; exact hx))).2 (k x (by simp [hx])))
    have h3 := List.length_erase_of_mem h1
    have h4 := List.length_pos_of_mem h1
    simp only [List.length_cons]; omega
theorem sub_eq {a b : List (ByteArray × Int)} (ha : isB a = true) (hb : isB b = true) : (a.all fun x => decide (0 < totalP x.1 b)) = subB a b := by
  have hp : ∀ s, 0 ≤ totalP s b := total_nonneg (isB_posP hb)
  have e1 : (a.all fun x => decide (0 < totalP x.1 b)) = a.all fun x => decide (totalP x.1 b ≠ 0) := by
    congr 1; funext x; rw [Bool.eq_iff_iff, decide_eq_true_iff, decide_eq_true_iff]; have := hp x.1; omega
  rw [e1]
  unfold subB
  cases h : a.all fun x => decide (totalP x.1 b ≠ 0)
  · rw [Bool.and_false]
  · rw [Bool.and_true]
    refine (decide_eq_true ?_).symm
    rw [List.all_eq_true] at h
    have := nodup_len (strict_nodup (strict_keys (isB_strict ha))) (m := b.map Prod.fst) (fun s hs => by
      obtain ⟨x, hx, rfl⟩ := List.mem_map.1 hs
      obtain ⟨y, hy, e⟩ := (tot_iff (isB_strict hb) (fun y hy => by have := isB_posP hb y hy; omega) x.1).1 (of_decide_eq_true (h x hx))
      exact List.mem_map.2 ⟨y, hy, e⟩)
    simpa using this

set_option maxRecDepth 100000 in
theorem cAbove (A B : Option Addr) (n c m d : Nat) (la lb : List (ByteArray × Int)) (w : World) (hl : la.length = n) (hl' : lb.length = m) (hn : n ≤ 1000) (hm : m ≤ 1000) (hA : PlainAt w A la) (hB : PlainAt w B lb) (sa : la.Pairwise fun a b => keyLt a.1 b.1 = true) (za : ∀ x ∈ la, 0 ≤ x.2 ∧ x.2 ≤ 1125899906842624) (zb : ∀ x ∈ lb, 0 ≤ x.2 ∧ x.2 ≤ 1125899906842624) :
    Calls Tryz.prog 60 #[.slice A n c, .slice B m d] w (RetE (.bool (gtB la lb)) w) := by
  have hX : SlAt (w.alloc (.cells #[.slice A n c] 22)) w.heap.size A n c la := ⟨blk_new0 w _ [.slice A n c], hA.ext (ext1 _ _), hl, by omega, sa, za⟩
  have H := Lib.hid (all_above w.heap.size A B n c m d la lb _ hX hl' (by omega) (hB.ext (ext1 _ _)) zb)
  have hmf : ∀ (fn : Fn) (first cap : Array Value) (V : World), (Instr.makeFunc fn first cap).run Tryz.prog V = .ok (.func fn first cap) V := fun _ _ _ _ => rfl
  obtain ⟨q, hq⟩ : ∃ q, q = (lb.all fun x => decide (x.2 < totalP x.1 la)) := ⟨_, rfl⟩
  rw [← hq] at H
  have F := Lib.hid (show gtB la lb = (!la.isEmpty && q) by rw [hq]; rfl)
  by_cases h0 : n = 0
  · have F2 := Lib.hid (show gtB la lb = false by rw [F.out, List.eq_nil_of_length_eq_zero (hl.trans h0)]; rfl)
    subst h0
    clear hX hl hl' hA hB sa za zb hq F
    go_enter Tryz.func60, Tryz.ntmps60
    go_wp2
    go_ret
    exact ⟨by rw [F2.out] <;> rfl, ext1 _ _⟩
  · have F2 := Lib.hid (show gtB la lb = q by rw [F.out]; cases la with | nil => exact absurd hl.symm h0 | cons a l => rfl)
    have d0 : 0 < n := by omega
    clear hX hl hl' hA hB sa za zb hq F h0
    go_enter Tryz.func60, Tryz.ntmps60
    go_wp2_with (fail)
    go_at_call 46
    refine H.out.mono ?_
    rintro e w1 ⟨rfl, hE⟩
    have HE := Lib.hid hE; clear hE
    go_wp2
    go_ret
    exact ⟨by rw [F2.out] <;> rfl, (ext1 _ _).trans' HE.out⟩
set_option maxRecDepth 100000 in
theorem cLeast (A B : Option Addr) (n c m d : Nat) (la lb : List (ByteArray × Int)) (w : World) (hl : la.length = n) (hl' : lb.length = m) (hn : n ≤ 1000) (hm : m ≤ 1000) (hA : PlainAt w A la) (hB : PlainAt w B lb) (sa : la.Pairwise fun a b => keyLt a.1 b.1 = true) (za : ∀ x ∈ la, 0 ≤ x.2 ∧ x.2 ≤ 1125899906842624) (zb : ∀ x ∈ lb, 0 ≤ x.2 ∧ x.2 ≤ 1125899906842624) :
    Calls Tryz.prog 62 #[.slice A n c, .slice B m d] w (RetE (.bool (gteB la lb)) w) := by
  have hX : SlAt (w.alloc (.cells #[.slice A n c] 22)) w.heap.size A n c la := ⟨blk_new0 w _ [.slice A n c], hA.ext (ext1 _ _), hl, by omega, sa, za⟩
  have H := Lib.hid (all_least w.heap.size A B n c m d la lb _ hX hl' (by omega) (hB.ext (ext1 _ _)) zb)
  have hmf : ∀ (fn : Fn) (first cap : Array Value) (V : World), (Instr.makeFunc fn first cap).run Tryz.prog V = .ok (.func fn first cap) V := fun _ _ _ _ => rfl
  obtain ⟨q, hq⟩ : ∃ q, q = (lb.all fun x => decide (x.2 ≤ totalP x.1 la)) := ⟨_, rfl⟩
  rw [← hq] at H
  have F2 := Lib.hid (show gteB la lb = q by rw [hq]; rfl)
  clear hX hl hl' hA hB sa za zb hq
  go_enter Tryz.func62, Tryz.ntmps62
  go_wp2_with (fail)
  go_at_call 46
  refine H.out.mono ?_
  rintro e w1 ⟨rfl, hE⟩
  have HE := Lib.hid hE; clear hE
  go_wp2
  go_ret
  exact ⟨by rw [F2.out] <;> rfl, (ext1 _ _).trans' HE.out⟩
set_option maxRecDepth 100000 in
theorem cAny (p : Nat) (A B : Option Addr) (n c m d : Nat) (la lb : List (ByteArray × Int)) (q : Int) (w : World) (hL : L2 p A n c B m d w) (hX : SlAt w (p + 1) B m d lb) (hl : la.length = n) (hn : n ≤ 1000) (hA : PlainAt w A la) (za : ∀ x ∈ la, 0 ≤ x.2 ∧ x.2 ≤ 1125899906842624) (hq : 0 ≤ q ∧ q ≤ 1) :
    Calls Tryz.prog 64 #[.int .i64 q, .pointer (some ⟨p, 0, none⟩), .pointer (some ⟨p + 1, 0, none⟩)] w (RetE (.bool (!la.all fun x => (decide (totalP x.1 lb = 0) || decide (x.2 + q ≤ totalP x.1 lb)))) w) := by
  have H := Lib.hid (all_any (p + 1) B A m d n c lb la w.heap.size q _ (hX.ext (ext1 w (.cells #[.int .i64 q] 2))) hl (by omega) (hA.ext (ext1 _ _)) za (blk_new0 w _ [.int .i64 q]) hq)
  have hmf : ∀ (fn : Fn) (first cap : Array Value) (V : World), (Instr.makeFunc fn first cap).run Tryz.prog V = .ok (.func fn first cap) V := fun _ _ _ _ => rfl
  obtain ⟨r, hr⟩ : ∃ r, r = (la.all fun x => (decide (totalP x.1 lb = 0) || decide (x.2 + q ≤ totalP x.1 lb))) := ⟨_, rfl⟩
  rw [← hr] at H ⊢
  have c0 := cell_old (.cells #[.int .i64 q] 2) hL.1
  clear hL hX hl hn hA za hq hr
  go_enter Tryz.func64, Tryz.ntmps64
  go_wp2_with (fail)
  go_at_call 46
  refine H.out.mono ?_
  rintro e w1 ⟨rfl, hE⟩
  have HE := Lib.hid hE; clear hE
  go_wp2
  go_ret
  exact ⟨rfl, (ext1 _ _).trans' HE.out⟩
end Go.Proofs.YtagfbefgcijegaaGreatDoor
