/-
  Contracts of errors.New, of an error's text, ValidateDenom and impl.DenomErr.
-/
import Derived.Test.YtagfbefgcijegaaGreatDoorDenom2
import Derived.Test.YtagfbefgcijegaaGreatDoorMath
import Derived.Handy
namespace Go.Proofs.YtagfbefgcijegaaGreatDoor
open Go Go.RowKit

/-- An error of errors.New. -/
def errV (b : Nat) : Value := .iface 134 (.pointer (some ⟨b, 0, none⟩))
def RetErr (s : ByteArray) (w : World) (e : Ending) (w' : World) : Prop := ∃ b, e = .returned (.iface 134 (.pointer (some ⟨b, 0, none⟩))) ∧ Blk w' b 136 [.string s] ∧ Ext w w'

set_option maxRecDepth 100000 in
theorem eNew (s : ByteArray) (w : World) : Calls Tryz.prog 136 #[.string s] w (RetErr s w) := by
  go_enter Tryz.func136, Tryz.ntmps136
  go_wp2
  go_ret
  exact ⟨_, rfl, Blk.new _ _ _, Ext.alloc' _ _⟩

set_option maxRecDepth 100000 in
theorem eError (s : ByteArray) (b : Nat) (w : World) (h : Blk w b 136 [.string s]) : Calls Tryz.prog 298 #[.pointer (some ⟨b, 0, none⟩)] w fun e w' => e = .returned (.string s) ∧ w' = w := by
  have c0 : w.cell? ⟨b, 0, none⟩ = some (.string s) := (h.cell 0).trans rfl
  clear h
  go_enter Tryz.func298, Tryz.ntmps298
  go_wp2
  go_ret
  exact ⟨rfl, rfl⟩

set_option maxRecDepth 100000 in
theorem iWordNil (w : World) : Calls Tryz.prog 102 #[.nilIface] w fun e w' => e = .returned (.string ⟨#[]⟩) ∧ w' = w := by
  go_enter Tryz.func102, Tryz.ntmps102
  go_wp2
  go_ret
  exact ⟨rfl, rfl⟩

set_option maxRecDepth 100000 in
theorem iWordErr (s : ByteArray) (b : Nat) (w : World) (h : Blk w b 136 [.string s]) : Calls Tryz.prog 102 #[.iface 134 (.pointer (some ⟨b, 0, none⟩))] w fun e w' => e = .returned (.string s) ∧ w' = w := by
  have H := Lib.hid (eError s b w h); clear h
  go_enter Tryz.func102, Tryz.ntmps102
  go_wp2_with (first | (go_at_call 298; (with_reducible refine H.out.mono ?_); rintro e w' ⟨rfl, rfl⟩))
  go_ret
  exact ⟨rfl, rfl⟩

/-- "invalid denom". -/
abbrev invDenom : ByteArray := ⟨#[105, 110, 118, 97, 108, 105, 100, 32, 100, 101, 110, 111, 109]⟩

/-- No error, or this one. -/
def RetValid (r : Bool) (w : World) (e : Ending) (w' : World) : Prop := (r = true ∧ e = .returned .nilIface ∧ w' = w) ∨ (r = false ∧ RetErr invDenom w e w')

set_option maxRecDepth 100000 in
theorem tValid (s : ByteArray) (w : World) (hs : s.size ≤ 9223372036854775807) : Calls Tryz.prog 125 #[.string s] w
    (RetValid (denomB s) w) := by
  have H := Lib.hid (zDenom s w hs)
  obtain ⟨r, hr⟩ : ∃ r, r = denomB s := ⟨_, rfl⟩
  rw [← hr] at H ⊢
  clear hr
  cases r
  · go_enter Tryz.func125, Tryz.ntmps125
    go_wp2_with (first | (go_at_call 155; (with_reducible refine H.out.mono ?_); rintro e w' ⟨rfl, rfl⟩) | (go_at_call 136; refine (eNew invDenom _).mono ?_; rintro e w' ⟨b, rfl, hB, hE⟩; have HB := Lib.hid hB; have HE := Lib.hid hE; clear hB hE))
    go_ret
    exact Or.inr ⟨rfl, b, rfl, HB.out, HE.out⟩
  · go_enter Tryz.func125, Tryz.ntmps125
    go_wp2_with (first | (go_at_call 155; (with_reducible refine H.out.mono ?_); rintro e w' ⟨rfl, rfl⟩))
    go_ret
    exact Or.inl ⟨rfl, rfl, rfl⟩

/-- The words of ValidateDenom's error. -/
def denomWord (s : ByteArray) : ByteArray := if denomB s then ⟨#[]⟩ else invDenom

set_option maxRecDepth 100000 in
theorem iDenomErr (s : ByteArray) (w : World) (hs : s.size ≤ 9223372036854775807) : Calls Tryz.prog 76 #[.string s] w (RetE (.string (denomWord s)) w) := by
  have H := Lib.hid (tValid s w hs)
  obtain ⟨r, hr⟩ : ∃ r, r = denomB s := ⟨_, rfl⟩
  have F := Lib.hid hr
  rw [← hr] at H
  unfold denomWord
  rw [← hr]
  clear hr
  cases r
  · have H2 := Lib.hid (show Calls Tryz.prog 125 #[.string s] w (RetErr invDenom w) from H.out.mono (by rintro e w' (⟨h, _⟩ | ⟨_, h⟩); cases h; exact h))
    go_enter Tryz.func76, Tryz.ntmps76
    go_wp2_with (first | (go_at_call 125; (with_reducible refine H2.out.mono ?_); rintro e w' ⟨b, rfl, hB, hE⟩; have HB := Lib.hid hB; have HE := Lib.hid hE; clear hB hE) | (go_at_call 102; refine (iWordErr invDenom b _ HB.out).mono ?_; rintro e w' ⟨rfl, rfl⟩))
    go_ret
    exact ⟨rfl, HE.out⟩
  · have H2 := Lib.hid (show Calls Tryz.prog 125 #[.string s] w (fun e w' => e = .returned .nilIface ∧ w' = w) from H.out.mono (by rintro e w' (⟨_, h⟩ | ⟨h, _⟩); exact h; cases h))
    go_enter Tryz.func76, Tryz.ntmps76
    go_wp2_with (first | (go_at_call 125; (with_reducible refine H2.out.mono ?_); rintro e w' ⟨rfl, rfl⟩) | (go_at_call 102; refine (iWordNil _).mono ?_; rintro e w' ⟨rfl, rfl⟩))
    go_ret
    exact ⟨rfl, Ext.refl _⟩
end Go.Proofs.YtagfbefgcijegaaGreatDoor
