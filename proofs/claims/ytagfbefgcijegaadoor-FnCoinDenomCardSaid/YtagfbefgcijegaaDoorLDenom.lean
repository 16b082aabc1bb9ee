/-
  The walk of the law FnCoinDenom: it returns true.
-/
import Derived.Test.YtagfbefgcijegaaDoorAwake
namespace Go.Proofs.YtagfbefgcijegaaDoor
open Go Go.RowKit

set_option maxRecDepth 100000 in
set_option maxHeartbeats 1000000 in
theorem lawDenom (s : ByteArray) (w : World) : Calls Tryd.prog 3 #[.string s] w (RetE (.bool true) w) := by
  by_cases h1 : 2147483647 < s.size
  · have d1 : decide (2147483647 < s.size) = true := by simpa using h1
    go_enter Tryd.func3, Tryd.ntmps3
    go_wp2
    go_ret
    exact ⟨rfl, Ext.refl _⟩
  · by_cases h2 : 200 < s.size
    · have d1 : decide (2147483647 < s.size) = false := by simpa using h1
      have d2 : decide (200 < s.size) = true := by simpa using h2
      go_enter Tryd.func3, Tryd.ntmps3
      go_wp2
      go_ret
      exact ⟨rfl, Ext.refl _⟩
    · have d1 : decide (2147483647 < s.size) = false := by simpa using h1
      have d2 : decide (200 < s.size) = false := by simpa using h2
      have H1 := Lib.hid (sDenom s w (by omega))
      have H2 := Lib.hid (iDenomErr s w (by omega))
      unfold denomWord at H2
      cases hr : denomB s
      · rw [hr] at H1 H2
        have H2' := Lib.hid (show Calls Tryd.prog 6 #[.string s] w (RetE (.string invDenom) w) from H2.out)
        clear H2 hr
        go_enter Tryd.func3, Tryd.ntmps3
        go_wp2_with (first | (go_at_call 5; (with_reducible refine H1.out.mono ?_); rintro e w' ⟨rfl, rfl⟩) | (go_at_call 6; (with_reducible refine H2'.out.mono ?_); rintro e w2 ⟨rfl, hE⟩; have HE := Lib.hid hE; clear hE) | (go_at_call 7; refine (sumAwake _).mono ?_; rintro e w3 ⟨rfl, hE⟩; have HE3 := Lib.hid hE; clear hE))
        go_ret
        exact ⟨rfl, HE.out.trans' HE3.out⟩
      · rw [hr] at H1 H2
        have H2' := Lib.hid (show Calls Tryd.prog 6 #[.string s] w (RetE (.string ⟨#[]⟩) w) from H2.out)
        clear H2 hr
        go_enter Tryd.func3, Tryd.ntmps3
        go_wp2_with (first | (go_at_call 5; (with_reducible refine H1.out.mono ?_); rintro e w' ⟨rfl, rfl⟩) | (go_at_call 6; (with_reducible refine H2'.out.mono ?_); rintro e w2 ⟨rfl, hE⟩; have HE := Lib.hid hE; clear hE) | (go_at_call 7; refine (sumAwake _).mono ?_; rintro e w3 ⟨rfl, hE⟩; have HE3 := Lib.hid hE; clear hE))
        go_ret
        exact ⟨rfl, HE.out.trans' HE3.out⟩
end Go.Proofs.YtagfbefgcijegaaDoor
