/-
  Contracts of nat's add and sub, for numbers of at most one word.
-/
import Derived.Test.YtagfbefgcijegaaGreatDoorNat2
namespace Go.Proofs.YtagfbefgcijegaaGreatDoor
open Go Go.RowKit

set_option maxRecDepth 100000 in
theorem natAdd_none (A B : Option Addr) (ca cb : Nat) (w : World) :
    Calls Tryz.prog 198 #[.slice none 0 0, .slice A 0 ca, .slice B 0 cb] w (RetNat 0 w) := by
  go_enter Tryz.func198, Tryz.ntmps198
  go_wp2
  go_ret
  exact ⟨none, 0, [], rfl, Nat.le_refl _, words_none _, norm_nil, rfl, Ext.refl _⟩
set_option maxRecDepth 100000 in
theorem natAdd_left (A B : Option Addr) (ca cb : Nat) (xs : List Nat) (w : World) (hx : Words w A xs) (hN : Norm xs) (h0 : 0 < xs.length) (hn : xs.length ≤ 1000000) :
    Calls Tryz.prog 198 #[.slice none 0 0, .slice A xs.length ca, .slice B 0 cb] w (RetNat (natOf xs) w) := by
  have HS := Lib.hid (natSet A ca xs w hx hn hN)
  obtain ⟨n, hl⟩ : ∃ n, xs.length = n := ⟨_, rfl⟩
  rw [hl] at HS h0 ⊢
  clear hx hN hn hl
  have e0 : ((n : Int) == 0) = false := by simp; omega
  go_enter Tryz.func198, Tryz.ntmps198
  go_wp2_with (go_at_call 195; refine HS.out.mono ?_; rintro e w' ⟨A', c', ws', rfl, hr⟩; have HR := Lib.hid hr; clear hr)
  go_ret
  exact ⟨A', c', ws', rfl, HR.out⟩
set_option maxRecDepth 100000 in
theorem natAdd_right (A B : Option Addr) (ca cb : Nat) (ys : List Nat) (w : World) (hy : Words w B ys) (hN : Norm ys) (h0 : 0 < ys.length) (hn : ys.length ≤ 1000000) :
    Calls Tryz.prog 198 #[.slice none 0 0, .slice A 0 ca, .slice B ys.length cb] w (RetNat (natOf ys) w) := by
  have HS := Lib.hid (natAdd_left B A cb ca ys w hy hN h0 hn)
  obtain ⟨n, hl⟩ : ∃ n, ys.length = n := ⟨_, rfl⟩
  rw [hl] at HS h0 ⊢
  clear hy hN hn hl
  go_enter Tryz.func198, Tryz.ntmps198
  go_wp2_with (go_at_call 198; refine HS.out.mono ?_; rintro e w' ⟨A', c', ws', rfl, hr⟩; have HR := Lib.hid hr; clear hr)
  go_ret
  exact ⟨A', c', ws', rfl, HR.out⟩

theorem natAdd1 (A B : Option Addr) (ca cb : Nat) (xs ys : List Nat) (w : World) (hx : Words w A xs) (hy : Words w B ys) (hNx : Norm xs) (hNy : Norm ys) (hxl : xs.length ≤ 1) (hyl : ys.length ≤ 1) (hca : xs.length ≤ ca) (hcb : ys.length ≤ cb) :
    Calls Tryz.prog 198 #[.slice none 0 0, .slice A xs.length ca, .slice B ys.length cb] w (RetNat (natOf xs + natOf ys) w) := by
  rcases Nat.eq_zero_or_pos xs.length with h | h <;> rcases Nat.eq_zero_or_pos ys.length with k | k
  · obtain rfl := List.eq_nil_of_length_eq_zero h
    obtain rfl := List.eq_nil_of_length_eq_zero k
    exact natAdd_none A B ca cb w
  · obtain rfl := List.eq_nil_of_length_eq_zero h
    have := natAdd_right A B ca cb ys w hy hNy k (by omega)
    rwa [show natOf [] + natOf ys = natOf ys by simp [natOf]]
  · obtain rfl := List.eq_nil_of_length_eq_zero k
    have := natAdd_left A B ca cb xs w hx hNx h (by omega)
    rwa [show natOf xs + natOf [] = natOf xs by simp [natOf]]
  · rw [show xs.length = 1 by omega, show ys.length = 1 by omega]
    exact natAdd_eq A B ca cb xs ys 1 w hx hy (by omega) (by omega) (by omega) (by omega) (by omega) (by omega)

set_option maxRecDepth 100000 in
theorem natSub_none (A B : Option Addr) (ca cb : Nat) (w : World) :
    Calls Tryz.prog 199 #[.slice none 0 0, .slice A 0 ca, .slice B 0 cb] w (RetNat 0 w) := by
  go_enter Tryz.func199, Tryz.ntmps199
  go_wp2
  go_ret
  exact ⟨none, 0, [], rfl, Nat.le_refl _, words_none _, norm_nil, rfl, Ext.refl _⟩
set_option maxRecDepth 100000 in
theorem natSub_left (A B : Option Addr) (ca cb : Nat) (xs : List Nat) (w : World) (hx : Words w A xs) (hN : Norm xs) (h0 : 0 < xs.length) (hn : xs.length ≤ 1000000) :
    Calls Tryz.prog 199 #[.slice none 0 0, .slice A xs.length ca, .slice B 0 cb] w (RetNat (natOf xs) w) := by
  have HS := Lib.hid (natSet A ca xs w hx hn hN)
  obtain ⟨n, hl⟩ : ∃ n, xs.length = n := ⟨_, rfl⟩
  rw [hl] at HS h0 ⊢
  clear hx hN hn hl
  have e0 : ((n : Int) == 0) = false := by simp; omega
  go_enter Tryz.func199, Tryz.ntmps199
  go_wp2_with (go_at_call 195; refine HS.out.mono ?_; rintro e w' ⟨A', c', ws', rfl, hr⟩; have HR := Lib.hid hr; clear hr)
  go_ret
  exact ⟨A', c', ws', rfl, HR.out⟩

theorem natSub1 (A B : Option Addr) (ca cb : Nat) (xs ys : List Nat) (w : World) (hx : Words w A xs) (hy : Words w B ys) (hNx : Norm xs) (hNy : Norm ys) (hxl : xs.length ≤ 1) (hyl : ys.length ≤ 1) (hca : xs.length ≤ ca) (hcb : ys.length ≤ cb)
    (hge : natOf ys ≤ natOf xs) :
    Calls Tryz.prog 199 #[.slice none 0 0, .slice A xs.length ca, .slice B ys.length cb] w (RetNat (natOf xs - natOf ys) w) := by
  rcases Nat.eq_zero_or_pos xs.length with h | h <;> rcases Nat.eq_zero_or_pos ys.length with k | k
  · obtain rfl := List.eq_nil_of_length_eq_zero h
    obtain rfl := List.eq_nil_of_length_eq_zero k
    exact natSub_none A B ca cb w
  · obtain rfl := List.eq_nil_of_length_eq_zero h
    have : ys = [] := (nil_iff hNy).1 (by simp [natOf] at hge; exact hge)
    subst this
    simp at k
  · obtain rfl := List.eq_nil_of_length_eq_zero k
    have := natSub_left A B ca cb xs w hx hNx h (by omega)
    rwa [show natOf xs - natOf [] = natOf xs by simp [natOf]]
  · rw [show xs.length = 1 by omega, show ys.length = 1 by omega]
    exact natSub_eq A B ca cb xs ys 1 w hx hy (by omega) (by omega) (by omega) (by omega) (by omega) (by omega) hge
end Go.Proofs.YtagfbefgcijegaaGreatDoor
