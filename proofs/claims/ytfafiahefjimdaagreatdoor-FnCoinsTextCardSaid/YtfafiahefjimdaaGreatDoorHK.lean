/-
  Contracts of cosmosmath's mul, div, Int.SafeMul, Mul, SafeQuo, Quo for numbers of at most one word.
  Contracts of Coin.Validate of a coin that is in order, and of NewCoin.
-/
import Derived.Test.YtfafiahefjimdaaGreatDoorIntQuo
import Derived.Test.YtfafiahefjimdaaGreatDoorGB
import Derived.Test.YtfafiahefjimdaaGreatDoorGE
namespace Go.Proofs.YtfafiahefjimdaaGreatDoor
open Go Go.RowKit

theorem sgn_ne {z : Int} (h : z ≠ 0) : (sgn z == 0) = false := by
  unfold sgn
  by_cases h1 : z < 0
  · rw [if_pos h1]; rfl
  · rw [if_neg h1, if_pos (by omega)]; rfl
end Go.Proofs.YtfafiahefjimdaaGreatDoor

namespace Go.Proofs.YtfafiahefjimdaaGreatDoor
open Go Go.RowKit

theorem sgn_nonneg {z : Int} (h : 0 ≤ z) : (sgn z == -1) = false := by
  unfold sgn
  rw [if_neg (by omega)]
  by_cases h1 : z > 0
  · rw [if_pos h1]; rfl
  · rw [if_neg h1]; rfl

set_option maxRecDepth 100000 in
theorem tCoinOk (s : ByteArray) (b : Nat) (z : Int) (w : World) (h : BigAt w b z) (hs : denomB s = true) (hz : 0 ≤ z) (hsz : s.size ≤ 9223372036854775807) :
    Calls Tryz.prog 107 #[coinV s b] w (RetE .nilIface w) := by
  have k1 := Lib.hid (blk_new0 w 152 [.string s, .pointer (some ⟨b, 0, none⟩)])
  have HB := Lib.hid (h.ext (ext1 w (coinBox s b)))
  have HV := Lib.hid (fun W => tValid s W hsz)
  have hsg := sgn_nonneg hz
  clear h hz hsz
  go_enter Tryz.func107, Tryz.ntmps107
  go_wp2_with (first | (go_at_call 91; refine (HV.out _).mono ?_; rintro e w1 hv; rcases hv with ⟨_, rfl, rfl⟩ | ⟨hf, _⟩; rotate_left; (exact absurd hf (by rw [hs]; exact Bool.noConfusion))) | (go_at_call 159; refine (mIsNil b z _ (by exact HB.out)).mono ?_; rintro e w1 ⟨rfl, hE⟩; have HE := Lib.hid hE; clear hE; have p1 : w1.cell? ⟨w.heap.size, 1, none⟩ = some (.pointer (some ⟨b, 0, none⟩)) := ((k1.out.ext HE.out).cell 1).trans rfl) | (go_at_call 160; refine (mIsNegative b z _ (by exact HB.out.ext HE.out)).mono ?_; rintro e w2 ⟨rfl, hE⟩; have HE2 := Lib.hid hE; clear hE))
  go_ret
  exact ⟨rfl, (ext1 _ _).trans' (HE.out.trans' HE2.out)⟩

set_option maxRecDepth 100000 in
theorem tNewCoin (s : ByteArray) (b : Nat) (z : Int) (w : World) (h : BigAt w b z) (hs : denomB s = true) (hz : 0 ≤ z) (hsz : s.size ≤ 9223372036854775807) :
    Calls Tryz.prog 210 #[.string s, .agg #[.pointer (some ⟨b, 0, none⟩)]] w (RetCoin s z w) := by
  have k1 := Lib.hid ((blk_new1 w (.cells #[.pointer (some ⟨b, 0, none⟩)] 150) 152 [.string ⟨#[]⟩, .pointer none]).alloc (coinBox s b))
  have k2 := Lib.hid (blk_new2 w (.cells #[.pointer (some ⟨b, 0, none⟩)] 150) (.cells #[.string ⟨#[]⟩, .pointer none] 152) 152 [.string s, .pointer (some ⟨b, 0, none⟩)])
  have E3 := Lib.hid (ext3 w (.cells #[.pointer (some ⟨b, 0, none⟩)] 150) (.cells #[.string ⟨#[]⟩, .pointer none] 152) (coinBox s b))
  have HB := Lib.hid (h.ext E3.out)
  have HC := Lib.hid (tCoinOk s b z _ HB.out hs hz hsz)
  clear h hz hsz hs
  go_enter Tryz.func210, Tryz.ntmps210
  go_wp2_with (go_at_call 107; refine HC.out.mono ?_; rintro e w1 ⟨rfl, hE⟩; have s0 : w1.cell? ⟨w.heap.size + 2, 0, none⟩ = some (.string s) := (((k2.out).ext hE).cell 0).trans rfl; have s1 : w1.cell? ⟨w.heap.size + 2, 1, none⟩ = some (.pointer (some ⟨b, 0, none⟩)) := (((k2.out).ext hE).cell 1).trans rfl; have d0 : w1.cell? ⟨w.heap.size + 1, 0, none⟩ = some (.string ⟨#[]⟩) := (((k1.out).ext hE).cell 0).trans rfl; have d1 : w1.cell? ⟨w.heap.size + 1, 1, none⟩ = some (.pointer none) := (((k1.out).ext hE).cell 1).trans rfl; have f0 := ((k1.out).ext hE).frozen 0; have f1 := ((k1.out).ext hE).frozen 1; have HE := Lib.hid hE; clear hE)
  exact bodyPost_ret (v := coinV s b) (by simp [results, Tryz.results210, go_sem, d0, d1]) rfl ⟨b, rfl, two_done (E3.out.trans' HE.out) (by omega) (k1.out.ext HE.out) (HB.out.ext HE.out) _ _⟩
end Go.Proofs.YtfafiahefjimdaaGreatDoor
