/-
  Contracts of coins one by one: impl.coin, impl.backCoin.
-/
import Derived.Test.YtagfbefgcijegaaGreatDoorMath2
import Derived.Deep.RegionLaw
namespace Go.Proofs.YtagfbefgcijegaaGreatDoor
open Go Go.RowKit

/-- A coin handed back. -/
def RetCoin (s : ByteArray) (z : Int) (w : World) (e : Ending) (w' : World) : Prop := ∃ b, e = .returned (.agg #[.string s, .pointer (some ⟨b, 0, none⟩)]) ∧ BigAt w' b z ∧ Ext w w'
abbrev coinV (s : ByteArray) (b : Nat) : Value := .agg #[.string s, .pointer (some ⟨b, 0, none⟩)]
abbrev coinBox (s : ByteArray) (b : Nat) : Obj := .cells #[.string s, .pointer (some ⟨b, 0, none⟩)] 81
abbrev planBox (s : ByteArray) (n : Int) : Obj := .cells #[.string s, .int .i64 n] 37

set_option maxRecDepth 100000 in
theorem mBigInt (b : Nat) (z : Int) (w : World) (h : BigAt w b z) (hz : z.natAbs < B64) : Calls Tryz.prog 158 #[.agg #[.pointer (some ⟨b, 0, none⟩)]] w (RetPtr z w) := by
  have HB := Lib.hid (h.ext (ext1 w (intBox b))); have hlt := h.lt
  have hne : (Value.pointer (some ⟨b, 0, none⟩)) ≠ .pointer (some ⟨w.heap.size + 1, 0, none⟩) := by intro e; injection e with e; injection e with e; injection e with e; omega
  clear h
  have kb := Lib.hid (blk_new0 w 79 [.pointer (some ⟨b, 0, none⟩)])
  go_enter Tryz.func158, Tryz.ntmps158
  go_wp2_with (first | (go_at_call 169; refine (mIsNil b z _ (by exact HB.out)).mono ?_; rintro e w1 ⟨rfl, hE⟩; have HE1 := Lib.hid hE; clear hE; have p1 : (w1.alloc (.cells #[.bool false, .slice none 0 0] 130)).cell? ⟨w.heap.size, 0, none⟩ = some (.pointer (some ⟨b, 0, none⟩)) := (((kb.out.ext HE1.out).alloc _).cell 0).trans rfl) | (go_at_call 176; refine (intSet w1.heap.size _ z _ (by exact ((HB.out.ext HE1.out).ext (ext1 _ _)).big) (by exact big_ne (HB.out.ext HE1.out).big) (by exact blk_new0 w1 _ _) hz).mono ?_; rintro e w2 ⟨rfl, hr⟩; have HR := Lib.hid hr; clear hr))
  go_ret
  exact ⟨_, rfl, HR.out.1, Only.ext (((ext1 _ _).trans' HE1.out).trans' (ext1 _ _)) HR.out.2 (by have := HE1.out.size; simp at this; omega)⟩

theorem two_done {w w1 : World} {g b : Nat} {z : Int} {t : TypeId} {cs : List Value} (hE : Ext w w1) (hg : w.heap.size ≤ g) (hk : Blk w1 g t cs) (hB : BigAt w1 b z) (u v : Value) (h1 : 138 ≠ t := by decide) (h2 : 130 ≠ t := by decide) :
    BigAt ((w1.setCell ⟨g, 0, none⟩ u).setCell ⟨g, 1, none⟩ v) b z ∧ Ext w ((w1.setCell ⟨g, 0, none⟩ u).setCell ⟨g, 1, none⟩ v) :=
  ⟨(hB.set_ hk 0 u h1 h2).set_ (hk.set_ 0 u) 1 v h1 h2, Only.ext hE (((Only.refl _ _).set_ 0 _).set_ 1 _) hg⟩

set_option maxRecDepth 100000 in
theorem iCoin (s : ByteArray) (n : Int) (w : World) (h0 : -maxI ≤ n) (h1 : n ≤ maxI) : Calls Tryz.prog 83 #[.agg #[.string s, .int .i64 n]] w (RetCoin s n w) := by
  have k1 := Lib.hid ((blk_new0 w 37 [.string s, .int .i64 n]).alloc (.cells #[.string ByteArray.empty, .pointer none] 81))
  have k2 := Lib.hid (blk_new1 w (planBox s n) 81 [.string ByteArray.empty, .pointer none])
  go_enter Tryz.func83, Tryz.ntmps83
  go_wp2
  go_region_law (first | (go_simp; go_at_call 93; refine (mNewInt n _ h0 h1).mono ?_; rintro e w1 ⟨b, rfl, hB, hE⟩; have hE' := Ext.undrew hE; have HB := Lib.hid hB; have HE := Lib.hid hE'; have s0 : w1.cell? ⟨w.heap.size, 0, none⟩ = some (.string s) := (((k1.out).ext hE').cell 0).trans rfl; have d0 : w1.cell? ⟨w.heap.size + 1, 0, none⟩ = some (.string ByteArray.empty) := (((k2.out).ext hE').cell 0).trans rfl; have d1 : w1.cell? ⟨w.heap.size + 1, 1, none⟩ = some (.pointer none) := (((k2.out).ext hE').cell 1).trans rfl; have f0 := ((k2.out).ext hE').frozen 0; have f1 := ((k2.out).ext hE').frozen 1; clear hE hE' hB))
  all_goals go_wp2
  all_goals exact bodyPost_ret (v := coinV s b) (by simp [results, Tryz.results83, go_sem, d0, d1]) rfl ⟨b, rfl, two_done ((ext2 _ _ _).trans' HE.out) (by omega) (k2.out.ext HE.out) HB.out _ _⟩

set_option maxRecDepth 100000 in
theorem tIsNil (s : ByteArray) (b : Nat) (z : Int) (w : World) (h : BigAt w b z) (hz : z.natAbs < B64) : Calls Tryz.prog 128 #[coinV s b] w (RetE (.bool false) w) := by
  have H := Lib.hid (mBigInt b z _ (h.ext (ext1 w (coinBox s b))) hz); clear h hz
  have hp : ∀ (W : World) (r : Nat), (binOp .eql 77 (.pointer (some ⟨r, 0, none⟩)) (.pointer none)).run Tryz.prog W = .ok (.bool false) W := fun _ _ => by kernel_rfl
  go_enter Tryz.func128, Tryz.ntmps128
  go_wp2_with (go_at_call 158; refine H.out.mono ?_; rintro e w' ⟨r, rfl, hr, hE⟩; have HE := Lib.hid hE; clear hr hE)
  go_ret
  exact ⟨rfl, (ext1 _ _).trans' HE.out⟩

set_option maxRecDepth 100000 in
theorem iBackCoin (s : ByteArray) (b : Nat) (z : Int) (w : World) (h : BigAt w b z) (h0 : -maxI ≤ z) (h1 : z ≤ maxI) : Calls Tryz.prog 79 #[coinV s b] w fun e w' => e = .returned (.tuple #[.agg #[.string s, .int .i64 z], .bool true]) ∧ Ext w w' := by
  have hz : z.natAbs < B64 := by unfold maxI at h0 h1; unfold B64; omega
  have k1 := Lib.hid ((blk_new0 w 81 [.string s, .pointer (some ⟨b, 0, none⟩)]).alloc (.cells #[.string ByteArray.empty, .int .i64 0] 37))
  have k2 := Lib.hid (blk_new1 w (coinBox s b) 37 [.string ByteArray.empty, .int .i64 0])
  have HB := Lib.hid (h.ext (ext2 w (coinBox s b) (.cells #[.string ByteArray.empty, .int .i64 0] 37)))
  clear h
  go_enter Tryz.func79, Tryz.ntmps79
  go_wp2_with (first | (go_at_call 128; refine (tIsNil s b z _ (by exact HB.out) hz).mono ?_; rintro e w1 ⟨rfl, hE⟩; have HE1 := Lib.hid hE; clear hE; have p1 : w1.cell? ⟨w.heap.size, 1, none⟩ = some (.pointer (some ⟨b, 0, none⟩)) := ((k1.out.ext HE1.out).cell 1).trans rfl) | (go_at_call 129; refine (mIsInt64 b z _ (by exact HB.out.ext HE1.out) h0 h1).mono ?_; rintro e w2 ⟨rfl, hE⟩; have HE2 := Lib.hid (HE1.out.trans' hE); clear hE; have p2 : w2.cell? ⟨w.heap.size, 1, none⟩ = some (.pointer (some ⟨b, 0, none⟩)) := ((k1.out.ext HE2.out).cell 1).trans rfl; have s2 : w2.cell? ⟨w.heap.size, 0, none⟩ = some (.string s) := ((k1.out.ext HE2.out).cell 0).trans rfl))
  go_region_law (first | (go_simp; go_at_call 81; refine (mInt64 b z _ (by exact HB.out.ext (Below.drew HE2.out)) h0 h1).mono ?_; rintro e w3 ⟨rfl, hE⟩; have HE3 := Lib.hid (HE2.out.trans' (Ext.undrew hE)); clear hE; have s0 : w3.cell? ⟨w.heap.size, 0, none⟩ = some (.string s) := ((k1.out.ext HE3.out).cell 0).trans rfl; have d0 : w3.cell? ⟨w.heap.size + 1, 0, none⟩ = some (.string ByteArray.empty) := ((k2.out.ext HE3.out).cell 0).trans rfl; have d1 : w3.cell? ⟨w.heap.size + 1, 1, none⟩ = some (.int .i64 0) := ((k2.out.ext HE3.out).cell 1).trans rfl; have f0 := (k2.out.ext HE3.out).frozen 0; have f1 := (k2.out.ext HE3.out).frozen 1))
  all_goals go_wp2
  all_goals exact bodyPost_ret (v := .tuple #[.agg #[.string s, .int .i64 z], .bool true]) (by simp [results, Tryz.results79, go_sem, d0, d1]) rfl ⟨rfl, Only.ext ((ext2 _ _ _).trans' HE3.out) (((Only.refl _ _).set_ 0 _).set_ 1 _) (by omega)⟩
end Go.Proofs.YtagfbefgcijegaaGreatDoor
