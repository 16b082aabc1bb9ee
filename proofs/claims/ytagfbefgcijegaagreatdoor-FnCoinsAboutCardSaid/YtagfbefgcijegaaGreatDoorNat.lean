/-
  Contracts of nat's make, norm and set.
-/
import Derived.Test.YtagfbefgcijegaaGreatDoorVec
import Derived.Laws.CopyOwn
namespace Go.Proofs.YtagfbefgcijegaaGreatDoor
open Go Go.RowKit

theorem infoWord : (Tryz.prog.info? 138).map (fun i => (i.zero, i.size, i.bytes)) = some (some (.int .u64 0), 1, 8) := by kernel_rfl

theorem blkMake (w : World) (c : Nat) (v : Value) (E : TypeId) : Blk (w.alloc (.cells (Array.replicate c v) E)) w.heap.size E (List.replicate c v) := by
  rw [← List.toArray_replicate]; exact Blk.new w E _
def RetMake (n : Nat) (w : World) (e : Ending) (w' : World) : Prop :=
  ∃ c, n ≤ c ∧ e = .returned (.slice (some ⟨w.heap.size, 0, none⟩) n c) ∧ w' = w.alloc (.cells (Array.replicate c (.int .u64 0)) 138)

set_option maxRecDepth 100000 in
theorem natMake (n : Nat) (w : World) (h1 : 1 ≤ n) (h2 : n ≤ 1000000) : Calls Tryz.prog 209 #[.slice none 0 0, .int .i64 n] w (RetMake n w) := by
  obtain ⟨i0, hi, hz0, hz1, hz2⟩ := info_parts infoWord
  by_cases e : n = 1
  · subst e
    have hmk : ∀ w, (Instr.makeSlice 128 (.int .i64 1) (.int .i64 1)).run Tryz.prog w = .ok (.slice (some ⟨w.heap.size, 0, none⟩) 1 1) (w.alloc (.cells #[.int .u64 0] 138)) := fun _ => by kernel_rfl
    go_enter Tryz.func209, Tryz.ntmps209
    go_wp2
    go_ret
    exact ⟨1, Nat.le_refl _, rfl, rfl⟩
  · have e1 : ((n : Int) == 1) = false := by simp; omega
    have hmk : ∀ W : World, (Instr.makeSlice 128 (.int .i64 (n : Int)) (.int .i64 ((n : Int) + 4))).run Tryz.prog W = .ok (.slice (some ⟨W.heap.size, 0, none⟩) n (n + 4)) (W.alloc (.cells (Array.replicate (n + 4) (.int .u64 0)) 138)) := fun W => by
      rw [run_make (P := Tryz.prog) W 128 138 i0 (.int .u64 0) Tryz.underlying128 hi hz0 .i64 .i64 (n : Int) ((n : Int) + 4) (by omega) (by omega) (by rw [hz2]; omega) (by omega), hz1]
      have e2 : ((n : Int) + 4).toNat * 1 = n + 4 := by omega
      have e3 : madeCells (Value.cells (.int .u64 0)) (n + 4) = (List.replicate (n + 4) (Value.int .u64 0)).toArray := by
        rw [← toList_madeCells_one]; rfl
      rw [e2, e3, List.toArray_replicate]; congr 2
    go_enter Tryz.func209, Tryz.ntmps209
    go_wp2
    go_ret
    exact ⟨n + 4, by omega, rfl, rfl⟩
theorem natMake0 (w : World) : Calls Tryz.prog 209 #[.slice none 0 0, .int .i64 0] w fun e w' => e = .returned (.slice none 0 0) ∧ w' = w := by
  go_enter Tryz.func209, Tryz.ntmps209
  go_wp2
  go_ret
  exact ⟨rfl, rfl⟩

/-- What norm hands back. -/
def RetNorm (A : Option Addr) (c : Nat) (ws : List Nat) (w : World) (e : Ending) (w' : World) : Prop :=
  ∃ ds, e = .returned (.slice A ds.length c) ∧ w' = w ∧ ds = ws.take ds.length ∧ Norm ds ∧ natOf ds = natOf ws

set_option maxRecDepth 100000 in
theorem natNorm (g o c : Nat) (ws : List Nat) (n : Nat) (w : World) (hl : ws.length = n) (hn : n ≤ 1000000) (hc : n ≤ c)
    (hx : ∀ j (h : j < ws.length), w.cell? ⟨g, o + j, none⟩ = some (.int .u64 (ws[j] : Int))) :
    Calls Tryz.prog 212 #[.slice (some ⟨g, o, none⟩) n c] w (RetNorm (some ⟨g, o, none⟩) c ws w) := by
  have HX := Lib.hid hx; have HL := Lib.hid hl; clear hx hl
  go_enter Tryz.func212, Tryz.ntmps212
  go_wp2
  go_loop [3] (fun i => ∃ k : Nat, k ≤ n ∧ i = .int .i64 k ∧ natOf (ws.take k) = natOf ws) (fun i => (intOf i).toNat)
  case atStart => exact ⟨n, Nat.le_refl _, rfl, by rw [List.take_of_length_le (by rw [HL.out]; exact Nat.le_refl _)]⟩
  case round =>
    obtain ⟨k, hk, rfl, hv⟩ := hrel
    have HV := Lib.hid hv; clear hv
    rcases Nat.eq_zero_or_pos k with rfl | hpos
    · go_wp2
      go_ret
      exact ⟨[], rfl, rfl, by simp, by intro y hy; simp at hy, by simpa using HV.out⟩
    · obtain ⟨m, rfl⟩ : ∃ m, k = m + 1 := ⟨k - 1, by omega⟩
      have hm : m < ws.length := by rw [HL.out]; omega
      obtain ⟨x, hxm⟩ : ∃ x, x = ws[m] := ⟨_, rfl⟩
      have cx : w.cell? ⟨g, o + m, none⟩ = some (.int .u64 (x : Int)) := by rw [hxm]; exact HX.out m hm
      have HXM := Lib.hid hxm; clear hxm
      by_cases h0 : x = 0
      · go_wp2
        go_round
        case rel => exact ⟨m, by omega, by go_num, by rw [← HV.out, natOf_take_succ _ _ hm, ← HXM.out, h0]; simp⟩
        case measure => simp [intOf]
      · have e0 : ((x : Int) == 0) = false := by simp; omega
        go_wp2
        go_ret
        refine ⟨ws.take (m + 1), ?_, rfl, ?_, ?_, HV.out⟩
        · rw [List.length_take, Nat.min_eq_left (by omega)]; rfl
        · rw [List.length_take, Nat.min_eq_left (by omega)]
        · intro y hy
          rw [List.take_succ_eq_append_getElem hm, List.getLast?_append] at hy
          simp at hy
          rw [← hy, ← HXM.out]; exact h0

/-- What a function hands back that makes a number. -/
def RetNat (N : Nat) (w : World) (e : Ending) (w' : World) : Prop :=
  ∃ A c ws, e = .returned (.slice A ws.length c) ∧ ws.length ≤ c ∧ Words w' A ws ∧ Norm ws ∧ natOf ws = N ∧ Ext w w'

set_option maxRecDepth 100000 in
theorem natSet (A : Option Addr) (c : Nat) (ws : List Nat) (w : World) (hw : Words w A ws) (hn : ws.length ≤ 1000000) (hN : Norm ws) :
    Calls Tryz.prog 195 #[.slice none 0 0, .slice A ws.length c] w (RetNat (natOf ws) w) := by
  obtain ⟨n, hl⟩ : ∃ n, ws.length = n := ⟨_, rfl⟩
  rw [hl]
  rw [hl] at hn
  have HL := Lib.hid hl; have HW := Lib.hid hw; clear hl hw
  rcases Nat.eq_zero_or_pos n with h0 | h0
  · subst h0
    have HW0 : ws = [] := List.eq_nil_of_length_eq_zero HL.out
    go_enter Tryz.func195, Tryz.ntmps195
    go_wp2_with (first | (go_at_call 209; refine (natMake0 _).mono ?_; rintro e w' ⟨rfl, rfl⟩) | (with_reducible refine wpList_copy_nothing rfl (.tmp 9) (.tmp 10) 128 128 rfl 138 Tryz.underlying128 (by kernel_rfl) _ _ _ _ _ _ rfl rfl rfl ?_))
    go_ret
    exact ⟨none, 0, [], rfl, Nat.le_refl _, ⟨by simp, fun h => absurd rfl h⟩, by intro y hy; simp at hy, by rw [HW0], Ext.refl _⟩
  · go_enter Tryz.func195, Tryz.ntmps195
    obtain ⟨gx, ox, rfl, hcell⟩ := HW.out.get (by intro h; rw [h] at HL; exact absurd HL.out (by simp; omega))
    have HC := Lib.hid hcell; clear hcell
    go_wp2_with (first | (go_at_call 209; refine (natMake n _ h0 hn).mono ?_; rintro e w' ⟨c', hc', rfl, rfl⟩) | (with_reducible refine wpList_copy_own rfl (.tmp 9) (.tmp 10) 128 128 rfl 138 Tryz.underlying128 (by kernel_rfl) w.heap.size 0 n c' ⟨gx, ox, none⟩ n c rfl rfl _ 138 (heap_alloc_new _ _) (ws.map wv) (by rw [List.length_map, HL.out]; exact (Nat.min_self n).symm) ?src ?fit ?one ?_))
    case fit => rw [List.length_map, HL.out]; simp; omega
    case one => intro v hv; obtain ⟨x, _, rfl⟩ := List.mem_map.1 hv; rfl
    case src =>
      intro j v hv
      rw [List.getElem?_map] at hv
      obtain ⟨x, hx, rfl⟩ := Option.map_eq_some_iff.1 hv
      obtain ⟨hj, rfl⟩ := List.getElem?_eq_some_iff.1 hx
      have := HC.out j hj
      refine cell_old _ ?_
      rcases Nat.eq_zero_or_pos j with rfl | hp
      · simpa [Addr.add, wv] using this
      · simpa [Addr.add, wv, show j ≠ 0 by omega] using this
    · go_wp2
      go_ret
      have hb : Blk ((w.alloc (.cells (Array.replicate c' (.int .u64 0)) 138)).setRow w.heap.size (putw (List.replicate c' (.int .u64 0)) ws).toArray) w.heap.size 138 (putw (List.replicate c' (.int .u64 0)) ws) :=
        setRow_heap (w.alloc (.cells (Array.replicate c' (.int .u64 0)) 138)) w.heap.size _ (putw (List.replicate c' (.int .u64 0)) ws).toArray _ _ (heap_alloc_new _ _)
      have hb' := hb
      simp only [putw, List.drop_replicate] at hb'
      refine ⟨some ⟨w.heap.size, 0, none⟩, c', ws, by rw [HL.out]; rfl, by rw [HL.out]; exact hc', ⟨HW.out.1, fun _ => ⟨w.heap.size, 0, rfl, ⟨_, hb'⟩, fun j hj => ?_⟩⟩, hN, rfl, ?_⟩
      · have := (hb.cell j).trans (putw_get _ _ j hj)
        simpa [putw, wv] using this
      · exact below_setRow (Ext.alloc' _ _) (Nat.le_refl _) _
end Go.Proofs.YtagfbefgcijegaaGreatDoor
