/-
  The contract of impl.DecCompareOne.
-/
import Derived.Test.YtcoffndnfaemoaaGreatDoorGP
import Derived.Test.YtcoffndnfaemoaaGreatDoorGC
import Derived.Deep.RegionHeld3
import Derived.Deep.DeepCutAuto
namespace Go.Proofs.YtcoffndnfaemoaaGreatDoor
open Go Go.RowKit

theorem dblk_two {w : World} {p : Nat} {T : TypeId} {c d u v : Value} (h : Blk w p T [c, d]) : Blk ((w.setCell ⟨p, 0, none⟩ u).setCell ⟨p, 1, none⟩ v) p T [u, v] := (h.set_ 0 u).set_ 1 v
theorem dblk_other {w : World} {p q : Nat} {T : TypeId} {cs : List Value} {u v : Value} (h : Blk w p T cs) (hne : p ≠ q) : Blk ((w.setCell ⟨q, 0, none⟩ u).setCell ⟨q, 1, none⟩ v) p T cs := (((Only.refl q w).set_ 0 u).set_ 1 v).block' h hne
theorem dbig_two {w : World} {q r : Nat} {z : Int} {cs : List Value} {u v : Value} {T : TypeId} (hB : BigK w r z) (hK : Blk w q T cs) (h1 : 167 ≠ T := by decide) (h2 : 126 ≠ T := by decide) : BigK ((w.setCell ⟨q, 0, none⟩ u).setCell ⟨q, 1, none⟩ v) r z := (hB.set_ hK 0 u h1 h2).set_ (hK.set_ 0 u) 1 v h1 h2
theorem dext_two {W w : World} {q : Nat} {u v : Value} (hE : Ext W w) (hq : W.heap.size ≤ q) : Ext W ((w.setCell ⟨q, 0, none⟩ u).setCell ⟨q, 1, none⟩ v) := Only.ext hE (((Only.refl _ _).set_ 0 _).set_ 1 _) hq
theorem dundrew1 {W w1 : World} {o : Obj} (h : Ext (W.alloc o).drew w1) : Ext (W.alloc o) w1 := ⟨h.os, h.tape, h.output, h.size, h.block⟩
theorem dundrew2 {W w1 : World} {o o' : Obj} (h : Ext ((W.alloc o).alloc o').drew w1) : Ext ((W.alloc o).alloc o') w1 := ⟨h.os, h.tape, h.output, h.size, h.block⟩
abbrev dcoinCells (s : ByteArray) (a : Nat) : Obj := .cells #[.string s, .pointer (some ⟨a, 0, none⟩)] 118
abbrev dcoinZero : Obj := .cells #[.string ⟨#[]⟩, .pointer none] 118

/-- Two new variables that hold coins. -/
def dTwoBox (s t : ByteArray) (y z : Int) (W : World) (u v : Value) (wx : World) : Prop := ∃ p q a b, u = .pointer (some ⟨p, 0, none⟩) ∧ v = .pointer (some ⟨q, 0, none⟩) ∧ Blk wx p 118 [.string s, .pointer (some ⟨a, 0, none⟩)] ∧ Blk wx q 118 [.string t, .pointer (some ⟨b, 0, none⟩)] ∧ BigK wx a y ∧ BigK wx b z ∧ Ext W wx
theorem dtwoBox_nn {W w2 : World} {a b : Nat} {y z : Int} (s t : ByteArray) (hA : BigK w2 a y) (hB : BigK w2 b z) (hE : Ext W w2) : dTwoBox s t y z W (.pointer (some ⟨w2.heap.size, 0, none⟩)) (.pointer (some ⟨w2.heap.size + 1, 0, none⟩)) ((w2.alloc (dcoinCells s a)).alloc (dcoinCells t b)) :=
  ⟨_, _, a, b, rfl, rfl, (blk_new0 w2 _ [.string s, .pointer (some ⟨a, 0, none⟩)]).alloc _, blk_new1 w2 _ _ [.string t, .pointer (some ⟨b, 0, none⟩)], hA.ext (ext2 _ _ _), hB.ext (ext2 _ _ _), hE.trans' (ext2 _ _ _)⟩
theorem dtwoBox_nn' {W w2 : World} {a b : Nat} {y z : Int} (s t : ByteArray) (hA : BigK w2 a y) (hB : BigK w2 b z) (hE : Ext W w2) : dTwoBox s t y z W (.pointer (some ⟨w2.heap.size + 1, 0, none⟩)) (.pointer (some ⟨w2.heap.size, 0, none⟩)) ((w2.alloc (dcoinCells t b)).alloc (dcoinCells s a)) :=
  ⟨_, _, a, b, rfl, rfl, blk_new1 w2 _ _ [.string s, .pointer (some ⟨a, 0, none⟩)], (blk_new0 w2 _ [.string t, .pointer (some ⟨b, 0, none⟩)]).alloc _, hA.ext (ext2 _ _ _), hB.ext (ext2 _ _ _), hE.trans' (ext2 _ _ _)⟩
theorem dset2_size (w : World) (p : Nat) (u v : Value) : ((w.setCell ⟨p, 0, none⟩ u).setCell ⟨p, 1, none⟩ v).heap.size = w.heap.size := by simp [World.setCell]
theorem dtwoBox_on {W w2 : World} {a b p : Nat} {c d : Value} {y z : Int} (s t : ByteArray) (hK : Blk w2 p 118 [c, d]) (hp : W.heap.size ≤ p) (hA : BigK w2 a y) (hB : BigK w2 b z) (hE : Ext W w2) :
    dTwoBox s t y z W (.pointer (some ⟨p, 0, none⟩)) (.pointer (some ⟨w2.heap.size, 0, none⟩)) (((w2.setCell ⟨p, 0, none⟩ (.string s)).setCell ⟨p, 1, none⟩ (.pointer (some ⟨a, 0, none⟩))).alloc (dcoinCells t b)) := by
  have hn := blk_new0 ((w2.setCell ⟨p, 0, none⟩ (.string s)).setCell ⟨p, 1, none⟩ (.pointer (some ⟨a, 0, none⟩))) 118 [.string t, .pointer (some ⟨b, 0, none⟩)]
  rw [dset2_size] at hn
  exact ⟨_, _, a, b, rfl, rfl, (dblk_two hK).alloc _, hn, (dbig_two hA hK).ext (ext1 _ _), (dbig_two hB hK).ext (ext1 _ _), (dext_two hE hp).trans' (ext1 _ _)⟩
theorem dtwoBox_no {W w2 : World} {a b q : Nat} {c d : Value} {y z : Int} (s t : ByteArray) (hK : Blk w2 q 118 [c, d]) (hq : W.heap.size ≤ q) (hA : BigK w2 a y) (hB : BigK w2 b z) (hE : Ext W w2) :
    dTwoBox s t y z W (.pointer (some ⟨w2.heap.size, 0, none⟩)) (.pointer (some ⟨q, 0, none⟩)) (((w2.setCell ⟨q, 0, none⟩ (.string t)).setCell ⟨q, 1, none⟩ (.pointer (some ⟨b, 0, none⟩))).alloc (dcoinCells s a)) := by
  have hn := blk_new0 ((w2.setCell ⟨q, 0, none⟩ (.string t)).setCell ⟨q, 1, none⟩ (.pointer (some ⟨b, 0, none⟩))) 118 [.string s, .pointer (some ⟨a, 0, none⟩)]
  rw [dset2_size] at hn
  exact ⟨_, _, a, b, rfl, rfl, hn, (dblk_two hK).alloc _, (dbig_two hA hK).ext (ext1 _ _), (dbig_two hB hK).ext (ext1 _ _), (dext_two hE hq).trans' (ext1 _ _)⟩
theorem dtwoBox_oo {W w2 : World} {a b p q : Nat} {c d c' d' : Value} {y z : Int} (s t : ByteArray) (hP : Blk w2 p 118 [c, d]) (hQ : Blk w2 q 118 [c', d']) (hp : W.heap.size ≤ p) (hq : W.heap.size ≤ q) (hne : p ≠ q) (hA : BigK w2 a y) (hB : BigK w2 b z) (hE : Ext W w2) :
    dTwoBox s t y z W (.pointer (some ⟨p, 0, none⟩)) (.pointer (some ⟨q, 0, none⟩)) ((((w2.setCell ⟨p, 0, none⟩ (.string s)).setCell ⟨p, 1, none⟩ (.pointer (some ⟨a, 0, none⟩))).setCell ⟨q, 0, none⟩ (.string t)).setCell ⟨q, 1, none⟩ (.pointer (some ⟨b, 0, none⟩))) :=
  ⟨_, _, a, b, rfl, rfl, dblk_other (dblk_two hP) hne, dblk_two (dblk_other hQ hne.symm), dbig_two (dbig_two hA hP) (dblk_other hQ hne.symm), dbig_two (dbig_two hB hP) (dblk_other hQ hne.symm), dext_two (dext_two hE hp) hq⟩
theorem dcoinE0 {W w1 : World} (h : Ext W.drew w1) : Ext W w1 := Ext.undrew h
theorem dcoinE1 {W w1 : World} (h : Ext (W.alloc dcoinZero).drew w1) : Ext W w1 := (ext1 _ _).trans' (dundrew1 h)
theorem dcoinE2 {W w1 : World} (h : Ext ((W.alloc dcoinZero).alloc dcoinZero).drew w1) : Ext W w1 := (ext2 _ _ _).trans' (dundrew2 h)
theorem dcoinF1 {W w1 : World} (h : Ext (W.alloc dcoinZero) w1) : Ext W w1 := (ext1 _ _).trans' h
theorem dcoinF2 {W w1 : World} (h : Ext ((W.alloc dcoinZero).alloc dcoinZero) w1) : Ext W w1 := (ext2 _ _ _).trans' h
theorem dcoinN1 {W w1 : World} (h : Ext (W.alloc dcoinZero) w1) : Blk w1 W.heap.size 118 [.string ⟨#[]⟩, .pointer none] := (blk_new0 W 118 [.string ⟨#[]⟩, .pointer none]).ext h
theorem dcoinN2 {W w1 : World} (h : Ext ((W.alloc dcoinZero).alloc dcoinZero) w1) : Blk w1 W.heap.size 118 [.string ⟨#[]⟩, .pointer none] ∧ Blk w1 (W.heap.size + 1) 118 [.string ⟨#[]⟩, .pointer none] := ⟨((blk_new0 W 118 [.string ⟨#[]⟩, .pointer none]).alloc _).ext h, (blk_new1 W _ 118 [.string ⟨#[]⟩, .pointer none]).ext h⟩
theorem dcoinM1 {W w1 : World} (h : Ext (W.alloc dcoinZero).drew w1) : Blk w1 W.heap.size 118 [.string ⟨#[]⟩, .pointer none] := dcoinN1 (dundrew1 h)
theorem dcoinM2 {W w1 : World} (h : Ext ((W.alloc dcoinZero).alloc dcoinZero).drew w1) : Blk w1 W.heap.size 118 [.string ⟨#[]⟩, .pointer none] ∧ Blk w1 (W.heap.size + 1) 118 [.string ⟨#[]⟩, .pointer none] := dcoinN2 (dundrew2 h)
theorem thrE0 {W : World} (h : Thr W) : Thr W.drew := h
theorem thrF1 {W : World} (h : Thr W) : Thr (W.alloc dcoinZero) := h.ext (ext1 _ _)
theorem thrF2 {W : World} (h : Thr W) : Thr ((W.alloc dcoinZero).alloc dcoinZero) := h.ext (ext2 _ _ _)
theorem thrE1 {W : World} (h : Thr W) : Thr (W.alloc dcoinZero).drew := thrF1 h
theorem thrE2 {W : World} (h : Thr W) : Thr ((W.alloc dcoinZero).alloc dcoinZero).drew := thrF2 h
/-- Two coins that a region reads. -/
def DC4 (p q : Nat) (s : ByteArray) (a : Nat) (t : ByteArray) (b : Nat) (w' : World) : Prop := w'.cell? ⟨p, 0, none⟩ = some (.string s) ∧ w'.cell? ⟨p, 1, none⟩ = some (.pointer (some ⟨a, 0, none⟩)) ∧ w'.cell? ⟨q, 0, none⟩ = some (.string t) ∧ w'.cell? ⟨q, 1, none⟩ = some (.pointer (some ⟨b, 0, none⟩))
theorem DC4.ext {p q a b : Nat} {s t : ByteArray} {w w' : World} (h : DC4 p q s a t b w) (e : Ext w w') : DC4 p q s a t b w' := ⟨e.cell' h.1, e.cell' h.2.1, e.cell' h.2.2.1, e.cell' h.2.2.2⟩
theorem DC4.drew {p q a b : Nat} {s t : ByteArray} {w : World} (h : DC4 p q s a t b w) : DC4 p q s a t b w.drew := h
theorem DC4.alloc {p q a b : Nat} {s t : ByteArray} {w : World} (h : DC4 p q s a t b w) (o : Obj) : DC4 p q s a t b (w.alloc o) := h.ext (Ext.alloc' _ _)
theorem DC4.set1 {p q a b g i : Nat} {s t : ByteArray} {w : World} {u : Value} (h : DC4 p q s a t b w) (h1 : p ≠ g) (h2 : q ≠ g) : DC4 p q s a t b (w.setCell ⟨g, i, none⟩ u) := ⟨set_far h.1 h1, set_far h.2.1 h1, set_far h.2.2.1 h2, set_far h.2.2.2 h2⟩
/-- Two records that a region reads. -/
def DS6 (n : Nat) (s : ByteArray) (y1 y2 : Int) (t : ByteArray) (z1 z2 : Int) (w' : World) : Prop := w'.cell? ⟨n, 0, none⟩ = some (.string s) ∧ w'.cell? ⟨n, 1, none⟩ = some (.int .i64 y1) ∧ w'.cell? ⟨n, 2, none⟩ = some (.int .i64 y2) ∧ w'.cell? ⟨n + 1, 0, none⟩ = some (.string t) ∧ w'.cell? ⟨n + 1, 1, none⟩ = some (.int .i64 z1) ∧ w'.cell? ⟨n + 1, 2, none⟩ = some (.int .i64 z2)
theorem DS6.ext {n : Nat} {s t : ByteArray} {y1 y2 z1 z2 : Int} {w w' : World} (h : DS6 n s y1 y2 t z1 z2 w) (e : Ext w w') : DS6 n s y1 y2 t z1 z2 w' := ⟨e.cell' h.1, e.cell' h.2.1, e.cell' h.2.2.1, e.cell' h.2.2.2.1, e.cell' h.2.2.2.2.1, e.cell' h.2.2.2.2.2⟩
theorem DS6.drew {n : Nat} {s t : ByteArray} {y1 y2 z1 z2 : Int} {w : World} (h : DS6 n s y1 y2 t z1 z2 w) : DS6 n s y1 y2 t z1 z2 w.drew := h
theorem DS6.alloc {n : Nat} {s t : ByteArray} {y1 y2 z1 z2 : Int} {w : World} (h : DS6 n s y1 y2 t z1 z2 w) (o : Obj) : DS6 n s y1 y2 t z1 z2 (w.alloc o) := h.ext (Ext.alloc' _ _)
theorem DS6.set2 {n : Nat} {s t : ByteArray} {y1 y2 z1 z2 : Int} {q : Nat} {w : World} {u v : Value} (h : DS6 n s y1 y2 t z1 z2 w) (h1 : n ≠ q) (h2 : n + 1 ≠ q) : DS6 n s y1 y2 t z1 z2 ((w.setCell ⟨q, 0, none⟩ u).setCell ⟨q, 1, none⟩ v) :=
  ⟨set_far (set_far h.1 h1) h1, set_far (set_far h.2.1 h1) h1, set_far (set_far h.2.2.1 h1) h1, set_far (set_far h.2.2.2.1 h2) h2, set_far (set_far h.2.2.2.2.1 h2) h2, set_far (set_far h.2.2.2.2.2 h2) h2⟩


end Go.Proofs.YtcoffndnfaemoaaGreatDoor
