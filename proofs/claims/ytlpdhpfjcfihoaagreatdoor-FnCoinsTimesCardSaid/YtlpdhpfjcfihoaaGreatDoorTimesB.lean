/-
  Contract of impl.sound of coins that are in order.
-/
import Derived.Test.YtlpdhpfjcfihoaaGreatDoorTimesA
import Derived.Test.YtlpdhpfjcfihoaaGreatDoorGC
namespace Go.Proofs.YtlpdhpfjcfihoaaGreatDoor
open Go Go.RowKit

/-- Coins that Validate lets by. -/
def SoundL (l : List (ByteArray × Int)) : Prop := ∀ x ∈ l, denomB x.1 = true ∧ x.1.size ≤ 9223372036854775807 ∧ 0 ≤ x.2 ∧ x.2 ≤ maxI

set_option maxRecDepth 100000 in
set_option maxHeartbeats 400000 in
theorem iSound (A : Option Addr) (n c : Nat) (l : List (ByteArray × Int)) (w : World) (hl : l.length = n) (hn : n ≤ 1000000) (h : PlainAt w A l) (hz : SoundL l) :
    Calls Tryz.prog 64 #[.slice A n c] w (RetE (.bool true) w) := by
  have HL := Lib.hid hl; have HP := Lib.hid h; have HZ := Lib.hid hz
  clear hl h hz
  go_enter Tryz.func64, Tryz.ntmps64
  go_wp2
  go_loopw [7] (fun i wr => ∃ (k : Nat), k ≤ n ∧ i = .int .i64 k ∧ Ext w wr) (fun i _ => n - (intOf i).toNat)
  case atStart => exact ⟨0, Nat.zero_le _, rfl, Ext.refl _⟩
  case round =>
    obtain ⟨k, hk, rfl, hE⟩ := hrel
    have HE := Lib.hid hE
    clear hE
    by_cases hlt : k < n
    · have hkl : k < l.length := by rw [HL.out]; exact hlt
      obtain ⟨s, hs⟩ : ∃ s, s = l[k].1 := ⟨_, rfl⟩
      obtain ⟨z, hzz⟩ : ∃ z, z = l[k].2 := ⟨_, rfl⟩
      obtain ⟨g, o, hA, hc⟩ := HP.out (by intro e; have := congrArg List.length e; simp at this; rw [this] at hkl; simp at hkl)
      subst hA
      have hck := hc k (by simpa using hkl)
      have cs0 : wr.cell? ⟨g, o + k * 2, none⟩ = some (.string s) := HE.out.cell' (by rw [hck.1, hs]; simp [plain])
      have cs1 : wr.cell? ⟨g, o + k * 2 + 1, none⟩ = some (.int .i64 z) := HE.out.cell' (by rw [hck.2, hzz]; simp [plain])
      have hok := HZ.out _ (List.getElem_mem hkl)
      rw [← hs, ← hzz] at hok
      have HK := Lib.hid hok; clear hok
      clear hs hzz hck hc
      go_wp2_with (first | (go_at_call 109; refine (iCoin s z _ (by have := HK.out.2.2.1; unfold maxI; omega) HK.out.2.2.2).mono ?_; rintro e w1 ⟨b, rfl, hB, hE1⟩; have HB := Lib.hid hB; have HE1 := Lib.hid ((ext1 _ _).trans' hE1); clear hB hE1) | (go_at_call 110; refine (tCoinOk s b z _ HB.out HK.out.1 HK.out.2.2.1 HK.out.2.1).mono ?_; rintro e w2 ⟨rfl, hE2⟩; have HE2 := Lib.hid hE2; clear hE2))
      go_roundw
      case rel => exact ⟨k + 1, by omega, by go_num, HE.out.trans' (HE1.out.trans' HE2.out)⟩
      case measure => simp [intOf]; omega
    · obtain rfl : k = n := by omega
      go_wp2
      go_ret
      exact ⟨rfl, HE.out⟩
end Go.Proofs.YtlpdhpfjcfihoaaGreatDoor
