/-
  Contracts of big.Int's methods on a fresh receiver.
-/
import Derived.Test.YtagfbefgcijegaaGreatDoorBigA
import Derived.Test.YtagfbefgcijegaaGreatDoorNat2
import Derived.Test.YtagfbefgcijegaaGreatDoorCmp
import Derived.Deep.RegionHeld3
import Derived.Deep.RegionLaw
namespace Go.Proofs.YtagfbefgcijegaaGreatDoor
open Go Go.RowKit

theorem ptr_ne (W : World) {a b : Nat} {ca cb : List Value} (ha : Blk W a 130 ca) (hb : Blk W b 130 cb) (hne : a ≠ b) :
    (binOp .neq 77 (.pointer (some ⟨a, 0, none⟩)) (.pointer (some ⟨b, 0, none⟩))).run Tryz.prog W = .ok (.bool true) W := by
  obtain ⟨j, hj, hs⟩ : ∃ j, Tryz.prog.info? 130 = some j ∧ j.size ≠ 0 := by
    have h : (Tryz.prog.info? 130).map (·.size) = some 2 := by kernel_rfl
    obtain ⟨j, h1, h2⟩ := Option.map_eq_some_iff.1 h
    exact ⟨j, h1, by rw [h2]; decide⟩
  have h : ∀ d : Nat, (Op.equalIn (d + 1) 77 (.pointer (some ⟨a, 0, none⟩)) (.pointer (some ⟨b, 0, none⟩))).run Tryz.prog W = .ok false W := fun d => by
    simp [Op.equalIn, run_underlying Tryz.underlying77, sizeOf, typeInfo, hj, hs, run_sameAddr_other W (a := ⟨a, 0, none⟩) (b := ⟨b, 0, none⟩) (by intro e; injection e with e; exact hne e) ha hb]
  simp only [binOp]
  simp [Op.equal, Op.maxDepth, h 9999]
theorem ptr_eq_same (W : World) (a : Nat) :
    (binOp .eql 77 (.pointer (some ⟨a, 0, none⟩)) (.pointer (some ⟨a, 0, none⟩))).run Tryz.prog W = .ok (.bool true) W := by
  obtain ⟨j, hj, hs⟩ : ∃ j, Tryz.prog.info? 130 = some j ∧ j.size ≠ 0 := by
    have h : (Tryz.prog.info? 130).map (·.size) = some 2 := by kernel_rfl
    obtain ⟨j, h1, h2⟩ := Option.map_eq_some_iff.1 h
    exact ⟨j, h1, by rw [h2]; decide⟩
  have h : ∀ d : Nat, (Op.equalIn (d + 1) 77 (.pointer (some ⟨a, 0, none⟩)) (.pointer (some ⟨a, 0, none⟩))).run Tryz.prog W = .ok true W := fun d => by
    simp [Op.equalIn, run_underlying Tryz.underlying77, sizeOf, typeInfo, hj, run_sameAddr_same]
  simp only [binOp]
  simp [Op.equal, Op.maxDepth, h 9999]
theorem ptr_eq_other (W : World) {a b : Nat} {ca cb : List Value} (ha : Blk W a 130 ca) (hb : Blk W b 130 cb) (hne : a ≠ b) :
    (binOp .eql 77 (.pointer (some ⟨a, 0, none⟩)) (.pointer (some ⟨b, 0, none⟩))).run Tryz.prog W = .ok (.bool false) W := by
  obtain ⟨j, hj, hs⟩ : ∃ j, Tryz.prog.info? 130 = some j ∧ j.size ≠ 0 := by
    have h : (Tryz.prog.info? 130).map (·.size) = some 2 := by kernel_rfl
    obtain ⟨j, h1, h2⟩ := Option.map_eq_some_iff.1 h
    exact ⟨j, h1, by rw [h2]; decide⟩
  have h : ∀ d : Nat, (Op.equalIn (d + 1) 77 (.pointer (some ⟨a, 0, none⟩)) (.pointer (some ⟨b, 0, none⟩))).run Tryz.prog W = .ok false W := fun d => by
    simp [Op.equalIn, run_underlying Tryz.underlying77, sizeOf, typeInfo, hj, hs, run_sameAddr_other W (a := ⟨a, 0, none⟩) (b := ⟨b, 0, none⟩) (by intro e; injection e with e; exact hne e) ha hb]
  simp only [binOp]
  simp [Op.equal, Op.maxDepth, h 9999]

theorem natAbs_bigVal (neg : Bool) (ws : List Nat) : (bigVal neg ws).natAbs = natOf ws := by cases neg <;> simp [bigVal]

set_option maxRecDepth 100000 in
theorem intSet (b : Nat) (v : Value) (z : Int) (w : World) (hv : IsBig w v z) (hne : v ≠ .pointer (some ⟨b, 0, none⟩)) (hb : Blk w b 130 [.bool false, .slice none 0 0]) (hz : z.natAbs < B64) :
    Calls Tryz.prog 176 #[.pointer (some ⟨b, 0, none⟩), v] w (RetInto b z w) := by
  obtain ⟨x, rfl, A, c, ws, neg, hx, hw, hl, hN, h0, rfl⟩ := hv
  have hxb : x ≠ b := fun e => hne (by rw [e])
  have hlen := len_le_one hN (by rw [natAbs_bigVal] at hz; exact hz)
  have c0 : w.cell? ⟨x, 0, none⟩ = some (.bool neg) := (hx.cell 0).trans rfl
  have c1 : w.cell? ⟨x, 1, none⟩ = some (.slice A ws.length c) := (hx.cell 1).trans rfl
  have z0 : w.cell? ⟨b, 0, none⟩ = some (.bool false) := (hb.cell 0).trans rfl
  have z1 : w.cell? ⟨b, 1, none⟩ = some (.slice none 0 0) := (hb.cell 1).trans rfl
  have hpn := ptr_ne w hb hx (Ne.symm hxb)
  have HW := Lib.hid hw; have HB := Lib.hid hb; have HX := Lib.hid hx; have H0 := Lib.hid h0
  clear hw hb hx h0 hne
  go_enter Tryz.func176, Tryz.ntmps176
  go_wp2
  go_region_law (first | (go_simp; go_at_call 195; refine (natSet A c ws _ (by exact HW.out) (by omega) hN).mono ?_; rintro e w1 ⟨A', c', ws', rfl, hn⟩; have hE : Ext w w1 := Ext.undrew hn.2.2.2.2; have HN := Lib.hid hn; clear hn; have z1' := hE.cell' z1; have c1' := hE.cell' c1; have c0' := hE.cell' c0; have z0' := hE.cell' z0; have fz1 := (HB.out.ext hE).frozen 1; have fz0 := (HB.out.ext hE).frozen 0; have HE := Lib.hid hE; clear hE))
  all_goals go_wp2
  all_goals go_ret
  all_goals
    obtain ⟨hl', hw', hN', he', _⟩ := HN.out
    have hb1 := HB.out.ext HE.out
    exact ⟨rfl, ⟨A', c', ws', neg, ((hb1.set_ 1 _).set_ 0 _), (hw'.set_ (by intro a ha hn; subst ha; exact words_ne hw' hn hb1) 1 _).set_ (by intro a ha hn; subst ha; exact words_ne hw' hn hb1) 0 _, hl', hN', fun e => H0.out (nil_congr hN hN' he' e), bigVal_congr he'⟩, ((Only.of_ext HE.out).set_ 1 _).set_ 0 _⟩
end Go.Proofs.YtagfbefgcijegaaGreatDoor
