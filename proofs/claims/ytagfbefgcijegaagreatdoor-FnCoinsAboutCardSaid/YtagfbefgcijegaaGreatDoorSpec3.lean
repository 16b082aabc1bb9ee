/-
  The contract of the reference's SumSorted, and of IsSumOnce.
-/
import Derived.Test.YtagfbefgcijegaaGreatDoorSpec2
import Derived.Test.YtagfbefgcijegaaGreatDoorSort
import Derived.Test.YtagfbefgcijegaaGreatDoorKeys
import Derived.Deep.RegionLawGrows
import Derived.Deep.RegionHeld3
namespace Go.Proofs.YtagfbefgcijegaaGreatDoor
open Go Go.RowKit

theorem run_append_none {P : Program} (w : World) (t ty e : TypeId) (i : TypeInfo) (h1 : P.underlying t = some (.slice e)) (h2 : P.info? e = some i) (a x : Option Addr) (n cap c : Nat) (h : n ≤ cap) :
    (Builtin.append_ #[t, t] ty #[.slice a n cap, .slice x 0 c]).run P w = .ok (.slice a n cap) w := by
  cases a <;> cases x <;> simp [Builtin.append_, run_underlying h1, Go.sizeOf, typeInfo, h2, Result.andThen, Builtin.lenOf, Builtin.firstCells, h, storeCells, loadCells, loadCellsFrom]
theorem step_append_none {P : Program} {ops : Array Oper} {o : Oper} {a : Act} {w : World} {K : Act → World → Prop} {Q : Exit → Act → World → Prop} {E : Prop}
    (hg : o.guard = none) (s x : Operand) (t : TypeId) (hop : o.op = Op.call { callee := Callee.builtin Builtin.append, args := #[s, x], argTypes := #[t, t] })
    (e : TypeId) (i : TypeInfo) (h1 : P.underlying t = some (.slice e)) (h2 : P.info? e = some i) (ao ax : Option Addr) (n cap c : Nat) (hs : a.eval s = .slice ao n cap) (hx : a.eval x = .slice ax 0 c) (h : n ≤ cap)
    (hK : K (a.put o.dst (.slice ao n cap)) w) : if Region.wanted o (yielded ops a.tmps) = true then Oper.wp P o a w K Q else E := by
  have hw : Region.wanted o (yielded ops a.tmps) = true := by simp [Region.wanted, hg]
  rw [if_pos hw]
  have hrun := run_append_none (P := P) w t o.type e i h1 h2 ao ax n cap c h
  unfold Oper.wp
  simp [execOp, hop, resolve, invoke, builtin, hs, hx, hrun, Result.andThen]
  exact hK

theorem ext_none {a b : World} (h : a.grownBy b none) : Ext a b := ⟨h.os, h.tape, h.output, h.size, fun i hi => h.block i hi (by simp)⟩
theorem ext_da (w : World) (o o' : Obj) (n : Nat) : Ext w (((w.alloc o).drewN n).alloc o') := ((Ext.alloc' _ _).trans' (Ext.drewN' _ _)).trans' (Ext.alloc' _ _)
theorem ext_dda (w : World) (o o' : Obj) (n : Nat) : Ext w (((w.alloc o).drewN n).drew.alloc o') := (((Ext.alloc' _ _).trans' (Ext.drewN' _ _)).trans' (Ext.drewN' _ 1)).trans' (Ext.alloc' _ _)
theorem two_da (w : World) (a b : Value) (t : TypeId) (n : Nat) : ∀ j u, [a, b][j]? = some u → (((w.alloc (.cells #[a, b] t)).drewN n).alloc (.cells #[a, b] t)).cell? ((⟨w.heap.size + 1, 0, none⟩ : Addr).add j) = some u := by
  have := cell_two_new ((w.alloc (.cells #[a, b] t)).drewN n) a b t
  rwa [show ((w.alloc (.cells #[a, b] t)).drewN n).heap.size = w.heap.size + 1 by simp] at this
theorem keep_rec {a b : World} {g : Nat} {u v : Value} (h : a.cell? ⟨g, 0, none⟩ = some u ∧ a.cell? ⟨g, 1, none⟩ = some v) (e : Ext a b) : b.cell? ⟨g, 0, none⟩ = some u ∧ b.cell? ⟨g, 1, none⟩ = some v := ⟨e.cell' h.1, e.cell' h.2⟩
theorem two_at (w : World) (a b : Value) (t : TypeId) (n : Nat) : (((w.alloc (.cells #[a, b] t)).drewN n).alloc (.cells #[a, b] t)).cell? ⟨w.heap.size, 0, none⟩ = some a ∧ (((w.alloc (.cells #[a, b] t)).drewN n).alloc (.cells #[a, b] t)).cell? ⟨w.heap.size, 1, none⟩ = some b :=
  ⟨cell_old _ (show (w.alloc _).cell? _ = _ by rw [cell_new]; rfl), cell_old _ (show (w.alloc _).cell? _ = _ by rw [cell_new]; rfl)⟩
theorem two_at' (w : World) (a b : Value) (t : TypeId) (n : Nat) : (((w.alloc (.cells #[a, b] t)).drewN n).drew.alloc (.cells #[a, b] t)).cell? ⟨w.heap.size, 0, none⟩ = some a ∧ (((w.alloc (.cells #[a, b] t)).drewN n).drew.alloc (.cells #[a, b] t)).cell? ⟨w.heap.size, 1, none⟩ = some b :=
  ⟨cell_old _ (show (w.alloc _).cell? _ = _ by rw [cell_new]; rfl), cell_old _ (show (w.alloc _).cell? _ = _ by rw [cell_new]; rfl)⟩
theorem flat2_drop (l : List (Value × Value)) (j : Nat) : flat2 (l.drop j) = (flat2 l).drop (j * 2) := by
  induction l generalizing j with
  | nil => simp [flat2]
  | cons a t ih =>
    cases j with
    | zero => simp
    | succ j =>
      rw [List.drop_succ_cons, ih, show (j + 1) * 2 = j * 2 + 1 + 1 by omega]
      simp [flat2]
/-- The cells of a row's end. -/
theorem row_part {w W : World} {g : Nat} {E : TypeId} {cur : Array Value} {out : List (ByteArray × Int)} (hb : Blk w g E cur.toList) (ht : cur.toList.take (out.length * 2) = flat2 (out.map plain)) (e : Ext w W) (j : Nat) (_ : j ≤ out.length) :
    ∀ i u, (flat2 ((out.drop j).map plain))[i]? = some u → W.cell? ((⟨g, j * 2, none⟩ : Addr).add i) = some u := by
  intro i u hu
  rw [List.map_drop, flat2_drop, List.getElem?_drop, ← ht, List.getElem?_take] at hu
  split at hu
  · have hadd : (⟨g, j * 2, none⟩ : Addr).add i = ⟨g, j * 2 + i, none⟩ := by unfold Addr.add; split <;> simp_all
    rw [hadd]
    exact e.cell' ((hb.cell _).trans hu)
  · cases hu
theorem flat2_take (l : List (Value × Value)) (j : Nat) : flat2 (l.take j) = (flat2 l).take (j * 2) := by
  induction l generalizing j with
  | nil => simp [flat2]
  | cons a t ih =>
    cases j with
    | zero => simp [flat2]
    | succ j =>
      rw [List.take_succ_cons, flat2_cons, ih, flat2_cons, show (j + 1) * 2 = j * 2 + 1 + 1 by omega]
      simp
/-- The cells of a row's head. -/
theorem row_head {w W : World} {g : Nat} {E : TypeId} {cur : Array Value} {out : List (ByteArray × Int)} (hb : Blk w g E cur.toList) (ht : cur.toList.take (out.length * 2) = flat2 (out.map plain)) (e : Ext w W) (j : Nat) (_ : j ≤ out.length) (b : Addr) (hB : (some (⟨g, 0, none⟩ : Addr)) = some b) :
    ∀ i u, (flat2 ((out.take j).map plain))[i]? = some u → W.cell? (b.add i) = some u := by
  intro i u hu
  obtain rfl := (Option.some.inj hB).symm
  rw [List.map_take, flat2_take, ← ht, List.getElem?_take, List.getElem?_take] at hu
  split at hu
  · split at hu
    · have hadd : (⟨g, 0, none⟩ : Addr).add i = ⟨g, i, none⟩ := by unfold Addr.add; split <;> simp_all
      rw [hadd]
      exact e.cell' ((hb.cell _).trans hu)
    · cases hu
  · cases hu
theorem row_fst {w : World} {g : Nat} {E : TypeId} {cur : Array Value} {out : List (ByteArray × Int)} (hb : Blk w g E cur.toList) (ht : cur.toList.take (out.length * 2) = flat2 (out.map plain)) (j : Nat) (hj : j < out.length) : w.cell? ⟨g, j * 2, none⟩ = some (.string out[j].1) := by
  have h1 := (flat2_get (out.map plain) j (by simpa using hj)).1
  rw [← ht, List.getElem?_take, if_pos (by omega)] at h1
  rw [hb.cell, h1]; simp [plain]
theorem ins_fin {w W1 w40 : World} {base J m : Nat} {E : TypeId} {v : Value} {s : ByteArray} {z : Int} {out : List (ByteArray × Int)} (hE : Ext w W1)
    (h : w40.ownsRow base E 2 v (J + (1 + m)) (flat2 ((out.take J).map plain) ++ ([.string s, .int .i64 z] ++ flat2 ((out.drop J).map plain)))) (e : Ext W1 w40) (hb : w.heap.size ≤ base) :
    PlainOwn w40 w.heap.size E v (out.take J ++ (s, z) :: out.drop J) ∧ Ext w w40 := by
  refine ⟨?_, hE.trans' e⟩
  have hl : (out.take J ++ (s, z) :: out.drop J).length = J + (1 + m) := by
    have := h.1
    simp only [List.length_append, flat2_length, List.length_map, List.length_cons, List.length_nil] at this ⊢
    omega
  unfold PlainOwn
  rw [hl]
  have := row_low h hb
  simpa [flat2_append, flat2_cons, plain] using this
theorem ins_fin0 {w W1 w40 : World} {base J : Nat} {E : TypeId} {v : Value} {s : ByteArray} {z : Int} {out : List (ByteArray × Int)} (hE : Ext w W1)
    (h : w40.ownsRow base E 2 v (J + 1) (flat2 ((out.take J).map plain) ++ [.string s, .int .i64 z])) (e : Ext W1 w40) (hb : w.heap.size ≤ base) :
    PlainOwn w40 w.heap.size E v (out.take J ++ [(s, z)]) ∧ Ext w w40 := by
  refine ⟨?_, hE.trans' e⟩
  have hl : (out.take J ++ [(s, z)]).length = J + 1 := by
    have := h.1
    simp only [List.length_append, flat2_length, List.length_map, List.length_cons, List.length_nil] at this ⊢
    omega
  unfold PlainOwn
  rw [hl]
  have := row_low h hb
  simpa [flat2_append, flat2_cons, plain, flat2] using this
theorem ins_perm {l out : List (ByteArray × Int)} {k : Nat} {s : ByteArray} {z : Int} (hk : k < l.length) (hp : out.Perm (l.take k)) (he : l[k] = (s, z)) (J : Nat) : (out.take J ++ (s, z) :: out.drop J).Perm (l.take (k + 1)) := by
  rw [List.take_succ_eq_append_getElem hk, he]
  refine List.perm_middle.trans ?_
  rw [List.take_append_drop]
  exact (List.Perm.cons _ hp).trans (List.perm_append_singleton _ _).symm
theorem ins_perm0 {l out : List (ByteArray × Int)} {k : Nat} {s : ByteArray} {z : Int} {J : Nat} (hk : k < l.length) (hp : out.Perm (l.take k)) (he : l[k] = (s, z)) (hJ : out.length ≤ J) : (out.take J ++ [(s, z)]).Perm (l.take (k + 1)) := by
  have := ins_perm hk hp he J
  rwa [List.drop_eq_nil_of_le hJ] at this
theorem ins_pair {out : List (ByteArray × Int)} {J : Nat} {s : ByteArray} {z : Int} (h : out.Pairwise fun a b => le a.1 b.1) (hq : ∀ p, (hp : p < out.length) → J ≤ p → keyLt s out[p].1 = true) (hlo : ∀ p, (hp : p < out.length) → p < J → le out[p].1 s) (_ : J ≤ out.length) :
    (out.take J ++ (s, z) :: out.drop J).Pairwise fun a b => le a.1 b.1 := by
  have h1 : ∀ a ∈ out.take J, le a.1 s := fun a ha => by
    obtain ⟨p, hp, rfl⟩ := List.getElem_of_mem ha
    simp at hp
    rw [List.getElem_take]; exact hlo p (by omega) (by omega)
  have h2 : ∀ b ∈ out.drop J, le s b.1 := fun b hb => by
    obtain ⟨p, hp, rfl⟩ := List.getElem_of_mem hb
    simp at hp
    rw [List.getElem_drop]; exact le_of_lt (hq _ (by omega) (by omega))
  rw [List.pairwise_append]
  refine ⟨h.sublist (List.take_sublist _ _), ?_, ?_⟩
  · rw [List.pairwise_cons]
    exact ⟨h2, h.sublist (List.drop_sublist _ _)⟩
  · intro a ha b hb
    rcases List.mem_cons.1 hb with rfl | hb
    · exact h1 a ha
    · exact le_trans (h1 a ha) (h2 b hb)
theorem ins_pair0 {out : List (ByteArray × Int)} {J : Nat} {s : ByteArray} {z : Int} (h : out.Pairwise fun a b => le a.1 b.1) (hlo : ∀ p, (hp : p < out.length) → p < J → le out[p].1 s) (hJ : out.length ≤ J) :
    (out.take J ++ [(s, z)]).Pairwise fun a b => le a.1 b.1 := by
  rw [List.take_of_length_le hJ, List.pairwise_append]
  refine ⟨h, List.pairwise_singleton _ _, fun a ha b hb => ?_⟩
  rw [List.mem_singleton] at hb; subst hb
  obtain ⟨p, hp, rfl⟩ := List.getElem_of_mem ha
  exact hlo p hp (by omega)
theorem plain_one' (l : List (ByteArray × Int)) : ∀ u ∈ flat2 (l.map plain), u.oneCell' = true := by
  intro u hu
  obtain ⟨p, hp, hu⟩ := List.mem_flatMap.1 hu
  obtain ⟨x, _, rfl⟩ := List.mem_map.1 hp
  simp [plain] at hu
  rcases hu with rfl | rfl <;> rfl

set_option maxRecDepth 100000 in
set_option maxHeartbeats 2000000 in
theorem sSumSorted (A : Option Addr) (n c : Nat) (l : List (ByteArray × Int)) (w : World) (hl : l.length = n) (hn : n ≤ 100000) (h : PlainAt w A l) :
    Calls Tryz.prog 31 #[.slice A n c] w fun e w' => ∃ r, RetPlain 43 r w e w' ∧ r.Perm l ∧ r.Pairwise fun a b => le a.1 b.1 := by
  obtain ⟨i0, hi, hz0, hz1, hz2⟩ := info_parts infoSum
  have HL := Lib.hid hl; have HP := Lib.hid h
  clear hl h
  go_enter Tryz.func31, Tryz.ntmps31
  go_wp2
  go_loopw [3, 9] (fun v i wr => ∃ (k : Nat) (out : List (ByteArray × Int)), k ≤ n ∧ i = .int .i64 k ∧ out.length = k ∧ out.Perm (l.take k) ∧ (out.Pairwise fun a b => le a.1 b.1) ∧ PlainOwn wr w.heap.size 43 v out ∧ Ext w wr) (fun _ i _ => n - (intOf i).toNat)
  case atStart => exact ⟨0, [], Nat.zero_le _, rfl, rfl, List.Perm.refl _, List.Pairwise.nil, PlainOwn.nil _ _ _, Ext.refl _⟩
  case round =>
    obtain ⟨k, out, hk, rfl, hcl, hperm, hasc, hown, hE⟩ := hrel
    have HCL := Lib.hid hcl; have HPM := Lib.hid hperm; have HAS := Lib.hid hasc; have HO := Lib.hid hown; have HE := Lib.hid hE
    clear hcl hperm hasc hown hE
    by_cases hlt : k < n
    · have hkl : k < l.length := by rw [HL.out]; exact hlt
      obtain ⟨s, hs⟩ : ∃ s, s = l[k].1 := ⟨_, rfl⟩
      obtain ⟨z, hzz⟩ : ∃ z, z = l[k].2 := ⟨_, rfl⟩
      obtain ⟨g, o, hA, hc⟩ := HP.out (by intro e; have := congrArg List.length e; simp at this; rw [this] at hkl; simp at hkl)
      subst hA
      have hck := hc k (by simpa using hkl)
      have cs0 : wr.cell? ⟨g, o + k * 2, none⟩ = some (.string s) := HE.out.cell' (by rw [hck.1, hs]; simp [plain])
      have cs1 : wr.cell? ⟨g, o + k * 2 + 1, none⟩ = some (.int .i64 z) := HE.out.cell' (by rw [hck.2, hzz]; simp [plain])
      have HEL := Lib.hid (show l[k] = (s, z) by rw [hs, hzz])
      clear hs hzz hck hc
      rcases HO.out.2 with ⟨hv, hn0⟩ | ⟨q0, cap, cur, hv, hbg, hgb, hnc, hcm, hcs, hct⟩
      · subst hv
        obtain rfl : out = [] := List.length_eq_zero_iff.1 hn0
        obtain rfl : k = 0 := by have := HCL.out; simpa using this.symm
        obtain ⟨W1, hW1⟩ : ∃ W1, W1 = wr := ⟨_, rfl⟩
        subst hW1
        simp only [Nat.zero_mul, Nat.add_zero] at cs0 cs1
        go_wp2
        go_loopw [6] (fun i wz => ∃ q : Nat, i = .int .i64 0 ∧ wz = (W1.alloc (.cells #[.string s, .int .i64 z] 43)).drewN q) (fun _ _ => 0)
        case atStart => exact ⟨0, rfl, rfl⟩
        case round =>
          obtain ⟨q, rfl, rfl⟩ := hrel
          have HLO := Lib.hid (show ∀ p, (hp : p < ([] : List (ByteArray × Int)).length) → p < 0 → le (([] : List (ByteArray × Int))[p]).1 s from fun p _ h => by omega)
          go_wp2
          go_quiet (fail)
          go_wp2
          have TWO := Lib.hid (two_da W1 (.string s) (.int .i64 z) 43)
          have F0 := Lib.hid (show ∀ b : Addr, (some (⟨W1.heap.size + 1, 0, none⟩ : Addr)) = some b → b = ⟨W1.heap.size + 1, 0, none⟩ from fun b h => (Option.some.inj h).symm)
          go_region_held3 (fun w' => w'.cell? ⟨W1.heap.size, 0, none⟩ = some (.string s) ∧ w'.cell? ⟨W1.heap.size, 1, none⟩ = some (.int .i64 z)) (first | exact K40 | go_keep) (first | (refine step_append_none rfl (.tmp 35) (.tmp 38) 22 rfl 43 i0 Tryz.underlying22 hi _ _ 1 1 _ rfl rfl (Nat.le_refl _) ?_) | (refine step_append_grows rfl (.tmp 33) (.tmp 39) 22 rfl 43 i0 _ 2 24 Tryz.underlying22 hi hz0 hz1 hz2 rfl (by decide) none (0) (0) [] rfl ?_ rfl ?_ ⟨W1.heap.size + 1, 0, none⟩ 1 1 [.string s, .int .i64 z] rfl rfl ?_ ?_ ?_ ?_ ?_ ?_; (· intro _; exact ⟨rfl, rfl⟩); (· intro b hb; cases hb); (· first | exact TWO.out _ | exact TWO.out (_ + 1)); (· exact two_one _ _ rfl rfl); (· omega); (· unfold maxLen; omega); (· omega); (intro v40 w40 hown40 hgrow40; have K40 := keep_rec (by first | exact two_at _ _ _ _ _ | exact two_at' _ _ _ _ _) (ext_none hgrow40); have R40 := Lib.hid (ins_fin0 (w := w) (out := []) (J := 0) HE.out hown40 (Ext.trans' (by first | exact ext_da _ _ _ _ | exact ext_dda _ _ _ _ _) (ext_none hgrow40)) (by have := HE.out.size; simp; omega)); clear hown40 hgrow40)))
          go_wp2
          go_roundw
          case rel => exact ⟨0 + 1, ([] : List (ByteArray × Int)).take 0 ++ [(s, z)], by omega, by go_num, by have := HCL.out; simp <;> omega, ins_perm0 hkl HPM.out HEL.out (by have := HCL.out; omega), ins_pair0 HAS.out HLO.out (by have := HCL.out; omega), R40.out.1, R40.out.2⟩
          case measure => simp [intOf]; omega
      · subst hv
        have HB := Lib.hid (show Blk wr q0 43 cur.toList by unfold Blk; simpa using hgb)
        have HCT := Lib.hid hct
        have hkc : k ≤ cap := by rw [← HCL.out]; exact hnc
        clear hgb hct hcs
        obtain ⟨W1, hW1⟩ : ∃ W1, W1 = wr := ⟨_, rfl⟩
        subst hW1
        rw [HCL.out]
        go_wp2
        go_loopw [6] (fun i wz => ∃ (j q : Nat), j ≤ k ∧ i = .int .i64 j ∧ wz = (W1.alloc (.cells #[.string s, .int .i64 z] 43)).drewN q ∧ ∀ p, (hp : p < out.length) → j ≤ p → keyLt s out[p].1 = true) (fun i _ => (intOf i).toNat)
        case atStart => exact ⟨k, 0, Nat.le_refl _, rfl, rfl, fun p hp h => by have := HCL.out; omega⟩
        case round =>
          obtain ⟨j, q, hj, rfl, rfl, hq⟩ := hrel
          have HQ := Lib.hid hq; clear hq
          rcases j with _ | j
          · go_wp2
            go_quiet (fail)
            go_wp2
            have HLO := Lib.hid (show ∀ p, (hp : p < out.length) → p < 0 → le out[p].1 s from fun p _ h => by omega)
            by_cases hk0 : k = 0
            · subst hk0
              have OLD := Lib.hid (fun (W : World) (hW : Ext W1 W) (b : Addr) (hb : (some (⟨q0, 0, none⟩ : Addr)) = some b) => row_head HB.out HCT.out hW 0 (by have := HCL.out; omega) b hb)
              have OL := Lib.hid (show (flat2 ((out.take (0)).map plain)).length = (0) * 2 from by have := HCL.out; rw [flat2_length]; simp <;> omega)
              have TWO := Lib.hid (two_da W1 (.string s) (.int .i64 z) 43)
              have F0 := Lib.hid (show ∀ b : Addr, (some (⟨W1.heap.size + 1, 0, none⟩ : Addr)) = some b → b = ⟨W1.heap.size + 1, 0, none⟩ from fun b h => (Option.some.inj h).symm)
              go_region_held3 (fun w' => w'.cell? ⟨W1.heap.size, 0, none⟩ = some (.string s) ∧ w'.cell? ⟨W1.heap.size, 1, none⟩ = some (.int .i64 z)) (first | exact K40 | go_keep) (first | (refine step_append_none rfl (.tmp 35) (.tmp 38) 22 rfl 43 i0 Tryz.underlying22 hi _ _ 1 1 _ rfl rfl (Nat.le_refl _) ?_) | (refine step_append_grows rfl (.tmp 33) (.tmp 39) 22 rfl 43 i0 _ 2 24 Tryz.underlying22 hi hz0 hz1 hz2 rfl (by decide) (some ⟨q0, 0, none⟩) (0) (0) (flat2 ((out.take (0)).map plain)) rfl ?_ rfl ?_ ⟨W1.heap.size + 1, 0, none⟩ 1 1 [.string s, .int .i64 z] rfl rfl ?_ ?_ ?_ ?_ ?_ ?_; (· intro h; cases h); (· intro b _ i u hu; simp [flat2] at hu); (· first | exact TWO.out _ | exact TWO.out (_ + 1)); (· exact two_one _ _ rfl rfl); (· omega); (· unfold maxLen; omega); (· omega); (intro v40 w40 hown40 hgrow40; have K40 := keep_rec (by first | exact two_at _ _ _ _ _ | exact two_at' _ _ _ _ _) (ext_none hgrow40); have R40 := Lib.hid (ins_fin0 (w := w) HE.out hown40 (Ext.trans' (by first | exact ext_da _ _ _ _ | exact ext_dda _ _ _ _ _) (ext_none hgrow40)) (by have := HE.out.size; simp; omega)); clear hown40 hgrow40)))
              go_wp2
              go_roundw
              case rel => exact ⟨0 + 1, out.take (0) ++ [(s, z)], by omega, by go_num, by have := HCL.out; simp <;> omega, ins_perm0 hkl HPM.out HEL.out (by have := HCL.out; omega), ins_pair0 HAS.out HLO.out (by have := HCL.out; omega), R40.out.1, R40.out.2⟩
              case measure => simp [intOf]; omega
            · have hk1 : 0 < k := by omega
              have OLD := Lib.hid (fun (W : World) (hW : Ext W1 W) (b : Addr) (hb : (some (⟨q0, 0, none⟩ : Addr)) = some b) => row_head HB.out HCT.out hW 0 (by have := HCL.out; omega) b hb)
              have OL := Lib.hid (show (flat2 ((out.take (0)).map plain)).length = (0) * 2 from by have := HCL.out; rw [flat2_length]; simp <;> omega)
              have TWO := Lib.hid (two_da W1 (.string s) (.int .i64 z) 43)
              have F0 := Lib.hid (show ∀ b : Addr, (some (⟨W1.heap.size + 1, 0, none⟩ : Addr)) = some b → b = ⟨W1.heap.size + 1, 0, none⟩ from fun b h => (Option.some.inj h).symm)
              have DROP := Lib.hid (show ∀ W : World, Ext W1 W → ∀ i u, (flat2 ((out.drop (0)).map plain))[i]? = some u → W.cell? ((⟨q0, 0, none⟩ : Addr).add i) = some u from fun W hW i u hu => by have := row_part HB.out HCT.out hW (0) (by have := HCL.out; omega) i u hu; simpa using this)
              have DL := Lib.hid (show (flat2 ((out.drop (0)).map plain)).length = k * 2 from by rw [flat2_length]; simp [HCL.out])
              have ONE := Lib.hid (show ∀ u ∈ flat2 ((out.drop (0)).map plain), u.oneCell' = true from plain_one' _)
              have ONE2 := Lib.hid (show ∀ u ∈ [Value.string s, Value.int .i64 z] ++ flat2 ((out.drop (0)).map plain), u.oneCell' = true from fun u hu => (List.mem_append.1 hu).elim (two_one _ _ rfl rfl u) (plain_one' _ u))
              go_region_held3 (fun w' => w'.cell? ⟨W1.heap.size, 0, none⟩ = some (.string s) ∧ w'.cell? ⟨W1.heap.size, 1, none⟩ = some (.int .i64 z)) (first | exact K40 | exact K39 | go_keep) (first | (refine step_append_grows rfl (.tmp 35) (.tmp 38) 22 rfl 43 i0 _ 2 24 Tryz.underlying22 hi hz0 hz1 hz2 rfl (by decide) (some ⟨W1.heap.size + 1, 0, none⟩) 1 1 [.string s, .int .i64 z] rfl ?_ rfl ?_ ⟨q0, 0, none⟩ k cap (flat2 ((out.drop (0)).map plain)) rfl DL.out ?_ ONE.out ?_ ?_ ?_ ?_; (· intro h; cases h); (· intro b hb; obtain rfl := F0.out b hb; first | exact TWO.out _ | exact TWO.out (_ + 1)); (· exact DROP.out _ (by first | exact ext_da _ _ _ _ | exact ext_dda _ _ _ _ _)); (· omega); (· unfold maxLen; omega); (· omega); (intro v39 w39 hown39 hgrow39; obtain ⟨g39, c39, rfl, hb39, hlt39⟩ := hown39.form (by omega); have E39 := Lib.hid (show Ext W1 w39 from Ext.trans' (by first | exact ext_da _ _ _ _ | exact ext_dda _ _ _ _ _) (ext_none hgrow39)); have K39 := keep_rec (by first | exact two_at _ _ _ _ _ | exact two_at' _ _ _ _ _) (ext_none hgrow39); have O39 := Lib.hid hown39; clear hown39 hgrow39)) | (refine step_append_grows rfl (.tmp 33) (.tmp 39) 22 rfl 43 i0 _ 2 24 Tryz.underlying22 hi hz0 hz1 hz2 rfl (by decide) (some ⟨q0, 0, none⟩) (0) (0) (flat2 ((out.take (0)).map plain)) rfl ?_ rfl ?_ ⟨g39, 0, none⟩ (1 + k) c39 ([.string s, .int .i64 z] ++ flat2 ((out.drop (0)).map plain)) rfl O39.out.1 (O39.out.cells rfl) ONE2.out ?_ ?_ ?_ ?_; (· intro h; cases h); (· intro b _ i u hu; simp [flat2] at hu); (· omega); (· unfold maxLen; omega); (· omega); (intro v40 w40 hown40 hgrow40; have K40 := keep_rec K39 (ext_none hgrow40); have R40 := Lib.hid (And.intro hown40 (E39.out.trans' (ext_none hgrow40))); clear hown40 hgrow40)))
              have R41 := Lib.hid (ins_fin (w := w) HE.out R40.out.1 R40.out.2 (by have := HE.out.size; have := E39.out.size; omega))
              go_wp2
              go_roundw
              case rel => exact ⟨k + 1, out.take (0) ++ (s, z) :: out.drop (0), by omega, by go_num, by have := HCL.out; simp <;> omega, ins_perm hkl HPM.out HEL.out (0), ins_pair HAS.out HQ.out HLO.out (by have := HCL.out; omega), R41.out.1, R41.out.2⟩
              case measure => simp [intOf]; omega
          · have hjl : j < out.length := by have := HCL.out; omega
            obtain ⟨t, ht⟩ : ∃ t, t = out[j].1 := ⟨_, rfl⟩
            have ct0 : W1.cell? ⟨q0, j * 2, none⟩ = some (.string t) := by rw [ht]; exact row_fst HB.out HCT.out j hjl
            have ct1 := cell_old (.cells #[.string s, .int .i64 z] 43) ct0
            have HT := Lib.hid ht; clear ht
            have b0 : (0 : Int) ≤ (j : Int) := by omega
            have b1 : (j : Int) < (k : Int) := by omega
            have b2 : (0 : Int) ≤ (j : Int) + 1 := by omega
            have b3 : (j : Int) + 1 ≤ (k : Int) := by omega
            have b4 : (j : Int) + 1 ≤ (cap : Int) := by omega
            by_cases hgt : keyLt s t = true
            · have HG := Lib.hid hgt
              have g1 : Op.bytesLess t.toList s.toList = false := keyLt_asymm hgt
              have g2 : (t.toList == s.toList) = false := by rw [key_beq]; simp; intro e; subst e; rw [keyLt_irrefl] at hgt; cases hgt
              clear hgt
              go_wp2
              go_quiet (fail)
              go_wp2
              go_roundw
              case rel =>
                refine ⟨j, _, by omega, by go_num, rfl, fun p hp h => ?_⟩
                by_cases e : p = j
                · subst e; rw [← HT.out]; exact HG.out
                · exact HQ.out p hp (by omega)
              case measure => simp [intOf]
            · have hle : le t s := by unfold le; simpa using hgt
              have HLO := Lib.hid (show ∀ p, (hp : p < out.length) → p < j + 1 → le out[p].1 s from fun p hp h => by
                by_cases e : p = j
                · subst e; rw [← HT.out]; exact hle
                · exact le_trans (List.pairwise_iff_getElem.1 HAS.out p j hp hjl (by omega)) (by rw [← HT.out]; exact hle))
              have hgt' : keyLt s t = false := hle
              have hh : Op.bytesLess t.toList s.toList = true ∨ t = s := by
                cases e : Op.bytesLess t.toList s.toList
                · exact Or.inr (keyLt_tri e hgt')
                · exact Or.inl rfl
              clear hgt hle hgt'
              rcases hh with hh | hh
              · by_cases hkj : k = j + 1
                · subst hkj
                  go_wp2
                  go_quiet (fail)
                  go_wp2
                  have OLD := Lib.hid (fun (W : World) (hW : Ext W1 W) (b : Addr) (hb : (some (⟨q0, 0, none⟩ : Addr)) = some b) => row_head HB.out HCT.out hW (j + 1) (by have := HCL.out; omega) b hb)
                  have OL := Lib.hid (show (flat2 ((out.take ((j + 1))).map plain)).length = ((j + 1)) * 2 from by have := HCL.out; rw [flat2_length]; simp <;> omega)
                  have TWO := Lib.hid (two_da W1 (.string s) (.int .i64 z) 43)
                  have F0 := Lib.hid (show ∀ b : Addr, (some (⟨W1.heap.size + 1, 0, none⟩ : Addr)) = some b → b = ⟨W1.heap.size + 1, 0, none⟩ from fun b h => (Option.some.inj h).symm)
                  go_region_held3 (fun w' => w'.cell? ⟨W1.heap.size, 0, none⟩ = some (.string s) ∧ w'.cell? ⟨W1.heap.size, 1, none⟩ = some (.int .i64 z)) (first | exact K40 | go_keep) (first | (refine step_append_none rfl (.tmp 35) (.tmp 38) 22 rfl 43 i0 Tryz.underlying22 hi _ _ 1 1 _ rfl rfl (Nat.le_refl _) ?_) | (refine step_append_grows rfl (.tmp 33) (.tmp 39) 22 rfl 43 i0 _ 2 24 Tryz.underlying22 hi hz0 hz1 hz2 rfl (by decide) (some ⟨q0, 0, none⟩) ((j + 1)) ((j + 1)) (flat2 ((out.take ((j + 1))).map plain)) rfl ?_ OL.out ?_ ⟨W1.heap.size + 1, 0, none⟩ 1 1 [.string s, .int .i64 z] rfl rfl ?_ ?_ ?_ ?_ ?_ ?_; (· intro h; cases h); (· intro b hb; exact OLD.out _ (by first | exact ext_da _ _ _ _ | exact ext_dda _ _ _ _ _) b hb); (· first | exact TWO.out _ | exact TWO.out (_ + 1)); (· exact two_one _ _ rfl rfl); (· omega); (· unfold maxLen; omega); (· omega); (intro v40 w40 hown40 hgrow40; have K40 := keep_rec (by first | exact two_at _ _ _ _ _ | exact two_at' _ _ _ _ _) (ext_none hgrow40); have R40 := Lib.hid (ins_fin0 (w := w) HE.out hown40 (Ext.trans' (by first | exact ext_da _ _ _ _ | exact ext_dda _ _ _ _ _) (ext_none hgrow40)) (by have := HE.out.size; simp; omega)); clear hown40 hgrow40)))
                  go_wp2
                  go_roundw
                  case rel => exact ⟨(j + 1) + 1, out.take ((j + 1)) ++ [(s, z)], by omega, by go_num, by have := HCL.out; simp <;> omega, ins_perm0 hkl HPM.out HEL.out (by have := HCL.out; omega), ins_pair0 HAS.out HLO.out (by have := HCL.out; omega), R40.out.1, R40.out.2⟩
                  case measure => simp [intOf]; omega
                · have hcj : ¬ cap = j + 1 := by omega
                  go_wp2
                  go_quiet (fail)
                  go_wp2
                  have OLD := Lib.hid (fun (W : World) (hW : Ext W1 W) (b : Addr) (hb : (some (⟨q0, 0, none⟩ : Addr)) = some b) => row_head HB.out HCT.out hW (j + 1) (by have := HCL.out; omega) b hb)
                  have OL := Lib.hid (show (flat2 ((out.take ((j + 1))).map plain)).length = ((j + 1)) * 2 from by have := HCL.out; rw [flat2_length]; simp <;> omega)
                  have TWO := Lib.hid (two_da W1 (.string s) (.int .i64 z) 43)
                  have F0 := Lib.hid (show ∀ b : Addr, (some (⟨W1.heap.size + 1, 0, none⟩ : Addr)) = some b → b = ⟨W1.heap.size + 1, 0, none⟩ from fun b h => (Option.some.inj h).symm)
                  have DROP := Lib.hid (show ∀ W : World, Ext W1 W → ∀ i u, (flat2 ((out.drop ((j + 1))).map plain))[i]? = some u → W.cell? ((⟨q0, (j + 1) * 2, none⟩ : Addr).add i) = some u from fun W hW i u hu => by have := row_part HB.out HCT.out hW ((j + 1)) (by have := HCL.out; omega) i u hu; simpa using this)
                  have DL := Lib.hid (show (flat2 ((out.drop ((j + 1))).map plain)).length = (k - (j + 1)) * 2 from by rw [flat2_length]; simp [HCL.out])
                  have ONE := Lib.hid (show ∀ u ∈ flat2 ((out.drop ((j + 1))).map plain), u.oneCell' = true from plain_one' _)
                  have ONE2 := Lib.hid (show ∀ u ∈ [Value.string s, Value.int .i64 z] ++ flat2 ((out.drop ((j + 1))).map plain), u.oneCell' = true from fun u hu => (List.mem_append.1 hu).elim (two_one _ _ rfl rfl u) (plain_one' _ u))
                  go_region_held3 (fun w' => w'.cell? ⟨W1.heap.size, 0, none⟩ = some (.string s) ∧ w'.cell? ⟨W1.heap.size, 1, none⟩ = some (.int .i64 z)) (first | exact K40 | exact K39 | go_keep) (first | (refine step_append_grows rfl (.tmp 35) (.tmp 38) 22 rfl 43 i0 _ 2 24 Tryz.underlying22 hi hz0 hz1 hz2 rfl (by decide) (some ⟨W1.heap.size + 1, 0, none⟩) 1 1 [.string s, .int .i64 z] rfl ?_ rfl ?_ ⟨q0, (j + 1) * 2, none⟩ (k - (j + 1)) (cap - (j + 1)) (flat2 ((out.drop ((j + 1))).map plain)) rfl DL.out ?_ ONE.out ?_ ?_ ?_ ?_; (· intro h; cases h); (· intro b hb; obtain rfl := F0.out b hb; first | exact TWO.out _ | exact TWO.out (_ + 1)); (· exact DROP.out _ (by first | exact ext_da _ _ _ _ | exact ext_dda _ _ _ _ _)); (· omega); (· unfold maxLen; omega); (· omega); (intro v39 w39 hown39 hgrow39; obtain ⟨g39, c39, rfl, hb39, hlt39⟩ := hown39.form (by omega); have E39 := Lib.hid (show Ext W1 w39 from Ext.trans' (by first | exact ext_da _ _ _ _ | exact ext_dda _ _ _ _ _) (ext_none hgrow39)); have K39 := keep_rec (by first | exact two_at _ _ _ _ _ | exact two_at' _ _ _ _ _) (ext_none hgrow39); have O39 := Lib.hid hown39; clear hown39 hgrow39)) | (refine step_append_grows rfl (.tmp 33) (.tmp 39) 22 rfl 43 i0 _ 2 24 Tryz.underlying22 hi hz0 hz1 hz2 rfl (by decide) (some ⟨q0, 0, none⟩) ((j + 1)) ((j + 1)) (flat2 ((out.take ((j + 1))).map plain)) rfl ?_ OL.out ?_ ⟨g39, 0, none⟩ (1 + (k - (j + 1))) c39 ([.string s, .int .i64 z] ++ flat2 ((out.drop ((j + 1))).map plain)) rfl O39.out.1 (O39.out.cells rfl) ONE2.out ?_ ?_ ?_ ?_; (· intro h; cases h); (· intro b hb; exact OLD.out _ E39.out b hb); (· omega); (· unfold maxLen; omega); (· omega); (intro v40 w40 hown40 hgrow40; have K40 := keep_rec K39 (ext_none hgrow40); have R40 := Lib.hid (And.intro hown40 (E39.out.trans' (ext_none hgrow40))); clear hown40 hgrow40)))
                  have R41 := Lib.hid (ins_fin (w := w) HE.out R40.out.1 R40.out.2 (by have := HE.out.size; have := E39.out.size; omega))
                  go_wp2
                  go_roundw
                  case rel => exact ⟨k + 1, out.take ((j + 1)) ++ (s, z) :: out.drop ((j + 1)), by omega, by go_num, by have := HCL.out; simp <;> omega, ins_perm hkl HPM.out HEL.out ((j + 1)), ins_pair HAS.out HQ.out HLO.out (by have := HCL.out; omega), R41.out.1, R41.out.2⟩
                  case measure => simp [intOf]; omega
              · replace hh := hh.symm
                subst hh
                by_cases hkj : k = j + 1
                · subst hkj
                  go_wp2
                  go_quiet (fail)
                  go_wp2
                  have OLD := Lib.hid (fun (W : World) (hW : Ext W1 W) (b : Addr) (hb : (some (⟨q0, 0, none⟩ : Addr)) = some b) => row_head HB.out HCT.out hW (j + 1) (by have := HCL.out; omega) b hb)
                  have OL := Lib.hid (show (flat2 ((out.take ((j + 1))).map plain)).length = ((j + 1)) * 2 from by have := HCL.out; rw [flat2_length]; simp <;> omega)
                  have TWO := Lib.hid (two_da W1 (.string s) (.int .i64 z) 43)
                  have F0 := Lib.hid (show ∀ b : Addr, (some (⟨W1.heap.size + 1, 0, none⟩ : Addr)) = some b → b = ⟨W1.heap.size + 1, 0, none⟩ from fun b h => (Option.some.inj h).symm)
                  go_region_held3 (fun w' => w'.cell? ⟨W1.heap.size, 0, none⟩ = some (.string s) ∧ w'.cell? ⟨W1.heap.size, 1, none⟩ = some (.int .i64 z)) (first | exact K40 | go_keep) (first | (refine step_append_none rfl (.tmp 35) (.tmp 38) 22 rfl 43 i0 Tryz.underlying22 hi _ _ 1 1 _ rfl rfl (Nat.le_refl _) ?_) | (refine step_append_grows rfl (.tmp 33) (.tmp 39) 22 rfl 43 i0 _ 2 24 Tryz.underlying22 hi hz0 hz1 hz2 rfl (by decide) (some ⟨q0, 0, none⟩) ((j + 1)) ((j + 1)) (flat2 ((out.take ((j + 1))).map plain)) rfl ?_ OL.out ?_ ⟨W1.heap.size + 1, 0, none⟩ 1 1 [.string s, .int .i64 z] rfl rfl ?_ ?_ ?_ ?_ ?_ ?_; (· intro h; cases h); (· intro b hb; exact OLD.out _ (by first | exact ext_da _ _ _ _ | exact ext_dda _ _ _ _ _) b hb); (· first | exact TWO.out _ | exact TWO.out (_ + 1)); (· exact two_one _ _ rfl rfl); (· omega); (· unfold maxLen; omega); (· omega); (intro v40 w40 hown40 hgrow40; have K40 := keep_rec (by first | exact two_at _ _ _ _ _ | exact two_at' _ _ _ _ _) (ext_none hgrow40); have R40 := Lib.hid (ins_fin0 (w := w) HE.out hown40 (Ext.trans' (by first | exact ext_da _ _ _ _ | exact ext_dda _ _ _ _ _) (ext_none hgrow40)) (by have := HE.out.size; simp; omega)); clear hown40 hgrow40)))
                  go_wp2
                  go_roundw
                  case rel => exact ⟨(j + 1) + 1, out.take ((j + 1)) ++ [(s, z)], by omega, by go_num, by have := HCL.out; simp <;> omega, ins_perm0 hkl HPM.out HEL.out (by have := HCL.out; omega), ins_pair0 HAS.out HLO.out (by have := HCL.out; omega), R40.out.1, R40.out.2⟩
                  case measure => simp [intOf]; omega
                · have hcj : ¬ cap = j + 1 := by omega
                  go_wp2
                  go_quiet (fail)
                  go_wp2
                  have OLD := Lib.hid (fun (W : World) (hW : Ext W1 W) (b : Addr) (hb : (some (⟨q0, 0, none⟩ : Addr)) = some b) => row_head HB.out HCT.out hW (j + 1) (by have := HCL.out; omega) b hb)
                  have OL := Lib.hid (show (flat2 ((out.take ((j + 1))).map plain)).length = ((j + 1)) * 2 from by have := HCL.out; rw [flat2_length]; simp <;> omega)
                  have TWO := Lib.hid (two_da W1 (.string s) (.int .i64 z) 43)
                  have F0 := Lib.hid (show ∀ b : Addr, (some (⟨W1.heap.size + 1, 0, none⟩ : Addr)) = some b → b = ⟨W1.heap.size + 1, 0, none⟩ from fun b h => (Option.some.inj h).symm)
                  have DROP := Lib.hid (show ∀ W : World, Ext W1 W → ∀ i u, (flat2 ((out.drop ((j + 1))).map plain))[i]? = some u → W.cell? ((⟨q0, (j + 1) * 2, none⟩ : Addr).add i) = some u from fun W hW i u hu => by have := row_part HB.out HCT.out hW ((j + 1)) (by have := HCL.out; omega) i u hu; simpa using this)
                  have DL := Lib.hid (show (flat2 ((out.drop ((j + 1))).map plain)).length = (k - (j + 1)) * 2 from by rw [flat2_length]; simp [HCL.out])
                  have ONE := Lib.hid (show ∀ u ∈ flat2 ((out.drop ((j + 1))).map plain), u.oneCell' = true from plain_one' _)
                  have ONE2 := Lib.hid (show ∀ u ∈ [Value.string s, Value.int .i64 z] ++ flat2 ((out.drop ((j + 1))).map plain), u.oneCell' = true from fun u hu => (List.mem_append.1 hu).elim (two_one _ _ rfl rfl u) (plain_one' _ u))
                  go_region_held3 (fun w' => w'.cell? ⟨W1.heap.size, 0, none⟩ = some (.string s) ∧ w'.cell? ⟨W1.heap.size, 1, none⟩ = some (.int .i64 z)) (first | exact K40 | exact K39 | go_keep) (first | (refine step_append_grows rfl (.tmp 35) (.tmp 38) 22 rfl 43 i0 _ 2 24 Tryz.underlying22 hi hz0 hz1 hz2 rfl (by decide) (some ⟨W1.heap.size + 1, 0, none⟩) 1 1 [.string s, .int .i64 z] rfl ?_ rfl ?_ ⟨q0, (j + 1) * 2, none⟩ (k - (j + 1)) (cap - (j + 1)) (flat2 ((out.drop ((j + 1))).map plain)) rfl DL.out ?_ ONE.out ?_ ?_ ?_ ?_; (· intro h; cases h); (· intro b hb; obtain rfl := F0.out b hb; first | exact TWO.out _ | exact TWO.out (_ + 1)); (· exact DROP.out _ (by first | exact ext_da _ _ _ _ | exact ext_dda _ _ _ _ _)); (· omega); (· unfold maxLen; omega); (· omega); (intro v39 w39 hown39 hgrow39; obtain ⟨g39, c39, rfl, hb39, hlt39⟩ := hown39.form (by omega); have E39 := Lib.hid (show Ext W1 w39 from Ext.trans' (by first | exact ext_da _ _ _ _ | exact ext_dda _ _ _ _ _) (ext_none hgrow39)); have K39 := keep_rec (by first | exact two_at _ _ _ _ _ | exact two_at' _ _ _ _ _) (ext_none hgrow39); have O39 := Lib.hid hown39; clear hown39 hgrow39)) | (refine step_append_grows rfl (.tmp 33) (.tmp 39) 22 rfl 43 i0 _ 2 24 Tryz.underlying22 hi hz0 hz1 hz2 rfl (by decide) (some ⟨q0, 0, none⟩) ((j + 1)) ((j + 1)) (flat2 ((out.take ((j + 1))).map plain)) rfl ?_ OL.out ?_ ⟨g39, 0, none⟩ (1 + (k - (j + 1))) c39 ([.string s, .int .i64 z] ++ flat2 ((out.drop ((j + 1))).map plain)) rfl O39.out.1 (O39.out.cells rfl) ONE2.out ?_ ?_ ?_ ?_; (· intro h; cases h); (· intro b hb; exact OLD.out _ E39.out b hb); (· omega); (· unfold maxLen; omega); (· omega); (intro v40 w40 hown40 hgrow40; have K40 := keep_rec K39 (ext_none hgrow40); have R40 := Lib.hid (And.intro hown40 (E39.out.trans' (ext_none hgrow40))); clear hown40 hgrow40)))
                  have R41 := Lib.hid (ins_fin (w := w) HE.out R40.out.1 R40.out.2 (by have := HE.out.size; have := E39.out.size; omega))
                  go_wp2
                  go_roundw
                  case rel => exact ⟨k + 1, out.take ((j + 1)) ++ (s, z) :: out.drop ((j + 1)), by omega, by go_num, by have := HCL.out; simp <;> omega, ins_perm hkl HPM.out HEL.out ((j + 1)), ins_pair HAS.out HQ.out HLO.out (by have := HCL.out; omega), R41.out.1, R41.out.2⟩
                  case measure => simp [intOf]; omega
    · obtain rfl : k = n := by omega
      go_wp2
      go_ret
      exact ⟨out, ⟨_, rfl, HO.out, HE.out⟩, by have := HPM.out; rwa [List.take_of_length_le (by rw [HL.out]; exact Nat.le_refl _)] at this, HAS.out⟩
end Go.Proofs.YtagfbefgcijegaaGreatDoor
