/-
  Contracts of basicMul, of nat's mul and sqr for numbers of any lengths below the thresholds.
  Contract of nat's expNN without a modulus, for a base of one word and a small exponent.
-/
import Derived.Test.YtfafiahefjimdaaGreatDoorGM
import Derived.Test.YtfafiahefjimdaaGreatDoorGL
import Derived.Lib.SliceRun
import Derived.Deep.RegionHeld3
import Derived.Deep.QuietTactic
import Derived.BigQuiet
import Derived.Defers
import Derived.LoopTactic
import Derived.Laws.Bits64b
namespace Go.Proofs.YtfafiahefjimdaaGreatDoor
open Go Go.RowKit

/-- The four thresholds, as they are laid. -/
def Thr (w : World) : Prop := w.cell? ⟨3, 0, none⟩ = some (.int .i64 12) ∧ w.cell? ⟨4, 0, none⟩ = some (.int .i64 80) ∧ w.cell? ⟨5, 0, none⟩ = some (.int .i64 40) ∧ w.cell? ⟨7, 0, none⟩ = some (.int .i64 40)
theorem Thr.ext {w w' : World} (h : Thr w) (e : Ext w w') : Thr w' := ⟨e.cell' h.1, e.cell' h.2.1, e.cell' h.2.2.1, e.cell' h.2.2.2⟩
theorem Thr.drewN {w : World} (h : Thr w) (n : Nat) : Thr (w.drewN n) := h
theorem wb_not_int {w : World} {g v z : Nat} {full : List Nat} (h : WB w g full) (hl : 0 < full.length) (hc : w.cell? ⟨v, 0, none⟩ = some (.int .i64 (z : Int))) : v ≠ g := by
  rintro rfl
  rw [h.cell 0 (full[0]) (List.getElem?_eq_getElem hl)] at hc
  injection hc with hc; injection hc with h1 h2; cases h1
theorem Thr.only {w w' : World} {g : Nat} {full : List Nat} (h : Thr w) (hb : WB w g full) (hl : 0 < full.length) (e : Only g w w') : Thr w' :=
  ⟨e.cell h.1 (wb_not_int (z := 12) hb hl h.1), e.cell h.2.1 (wb_not_int (z := 80) hb hl h.2.1), e.cell h.2.2.1 (wb_not_int (z := 40) hb hl h.2.2.1), e.cell h.2.2.2 (wb_not_int (z := 40) hb hl h.2.2.2)⟩
theorem Thr.made {w w' : World} {gz g : Nat} (h : Thr w) (m : Made gz g w w') : Thr w' := by
  rcases m with ⟨_, rfl⟩ | ⟨_, e⟩
  · exact h
  · exact h.ext e

theorem WB.setCells_ : ∀ (xs : List Nat) {w : World} {g : Nat} {full : List Nat} (o : Nat), WB w g full → o + xs.length ≤ full.length → (∀ x ∈ xs, x < B64) → WB (w.setCells g o (xs.map wv)) g (over full o xs)
  | [], w, g, full, o, h, _, _ => by rw [over_nil]; exact h
  | x :: xs, w, g, full, o, h, hl, hx => by
    simp only [List.length_cons] at hl
    have h1 := h.set_ o x (hx x (List.mem_cons_self))
    have e1 := over_snoc (ws := full) (o := o) (ds := []) x (by simp; omega)
    rw [over_nil] at e1
    simp only [List.length_nil, Nat.add_zero, List.nil_append] at e1
    rw [e1] at h1
    have h2 := WB.setCells_ xs (o + 1) h1 (by rw [over_length (by simp; omega)]; omega) (fun y hy => hx y (List.mem_cons_of_mem _ hy))
    have e2 := over_join (ws := full) (o := o) (ds := [x]) (es := xs) (by simp; omega)
    simp only [List.length_cons, List.length_nil, Nat.zero_add, List.singleton_append] at e2
    rw [e2] at h2
    exact h2
theorem Only.setCells_ {g : Nat} : ∀ (vs : List Value) {a w : World} (o : Nat), Only g a w → Only g a (w.setCells g o vs)
  | [], _, _, _, h => h
  | v :: vs, _, _, o, h => Only.setCells_ vs (o + 1) (h.set_ o v)
theorem natOf_zeros (us : List Nat) (k : Nat) : natOf (us ++ List.replicate k 0) = natOf us := by
  have h : ∀ k, natOf (List.replicate k 0) = 0 := by
    intro k
    induction k with
    | zero => rfl
    | succ k ih => rw [List.replicate_succ, natOf, ih]; simp
  rw [natOf_append, h, Nat.mul_zero, Nat.add_zero]
theorem over0 (full L : List Nat) : over full 0 L = L ++ full.drop L.length := by simp [over]
theorem mul_over {full us ds rep : List Nat} {k c : Nat} (hu : us.length = k + ds.length) : (over (over full 0 (us ++ 0 :: rep)) k ds).set (k + ds.length) c = over full 0 (us.take k ++ ds ++ c :: rep) := by
  rw [over0, over0]
  have h1 : (us.take k ++ ds ++ c :: rep).length = (us ++ 0 :: rep).length := by simp; omega
  rw [h1]
  obtain ⟨F, hF⟩ : ∃ F, F = full.drop (us ++ 0 :: rep).length := ⟨_, rfl⟩
  rw [← hF]
  unfold over
  have e1 : (us ++ 0 :: rep ++ F).take k = us.take k := by
    rw [List.append_assoc, List.take_append_of_le_length (by omega)]
  have e2 : (us ++ 0 :: rep ++ F).drop (k + ds.length) = 0 :: rep ++ F := by
    rw [List.append_assoc, ← hu, List.drop_left]
  rw [e1, e2]
  have ht : (us.take k).length = k := by simp; omega
  rw [List.set_append_right _ _ (by rw [ht]; omega), ht, Nat.add_sub_cancel_left, List.set_append_right _ _ (Nat.le_refl _), Nat.sub_self]
  simp
theorem mul_step {X U T D E c k m y : Nat} (hu : U = T + B64 ^ k * E) (h : D + c * B64 ^ m = E + X * y) : T + B64 ^ k * (D + B64 ^ m * c) = U + X * (B64 ^ k * y) := by
  have e : B64 ^ k * (D + c * B64 ^ m) = B64 ^ k * (E + X * y) := by rw [h]
  rw [Nat.mul_add] at e
  rw [hu, Nat.mul_comm (B64 ^ m) c, Nat.mul_add, e, Nat.mul_add, Nat.mul_left_comm X]; omega

/-- What basicMul leaves. -/
def RetBM (g : Nat) (full : List Nat) (N n : Nat) (w : World) (e : Ending) (w' : World) : Prop :=
  e = .returned (.tuple #[]) ∧ ∃ ds, ds.length = n ∧ (∀ d ∈ ds, d < B64) ∧ natOf ds = N ∧ WB w' g (over full 0 ds) ∧ Only g w w'

theorem zero_word (w : World) : (zeroValue 221).run Tryz.prog w = .ok (.int .u64 0) w := by kernel_rfl
theorem clear_nat {w : World} {g c k : Nat} {full : List Nat} (hb : WB w g full) (hk : 0 < k) (hl : k ≤ full.length) (ty : TypeId) :
    (Builtin.clear_ #[171] ty #[.slice (some ⟨g, 0, none⟩) k c]).run Tryz.prog w = .ok (.tuple #[]) (w.setCells g 0 (List.replicate k (.int .u64 0))) :=
  Lib.run_clear_slice w 171 221 ty (.int .u64 0) Tryz.underlying171 zero_word rfl rfl g 0 k c hk
    (fun j hj => by rw [Nat.zero_add, hb.cell j _ (List.getElem?_eq_getElem (by omega))]; rfl) (fun j hj => hb.frozen _)

set_option maxRecDepth 100000 in
set_option maxHeartbeats 1000000 in
theorem vBasicMul (g cz bx ox cx by_ oy cy : Nat) (full xs ys : List Nat) (m n : Nat) (w : World) (hb : WB w g full) (hl : m + n ≤ full.length) (hcz : m + n ≤ cz) (hm : xs.length = m) (hn : ys.length = n) (hm0 : 0 < m) (hn0 : 0 < n) (hmx : m ≤ 100000) (hnx : n ≤ 100000)
    (hxb : ∀ x ∈ xs, x < B64) (hyb : ∀ y ∈ ys, y < B64) (hbx : bx ≠ g) (hby : by_ ≠ g)
    (hx : ∀ j (h : j < xs.length), w.cell? ⟨bx, ox + j, none⟩ = some (.int .u64 (xs[j] : Int))) (hy : ∀ j (h : j < ys.length), w.cell? ⟨by_, oy + j, none⟩ = some (.int .u64 (ys[j] : Int))) :
    Calls Tryz.prog 261 #[.slice (some ⟨g, 0, none⟩) (m + n) cz, .slice (some ⟨bx, ox, none⟩) m cx, .slice (some ⟨by_, oy, none⟩) n cy] w (RetBM g full (natOf xs * natOf ys) (m + n) w) := by
  have hcl := fun ty => clear_nat (c := cz) hb (by omega : 0 < m + n) hl ty
  obtain ⟨w0, hw0⟩ : ∃ w0, w0 = w.setCells g 0 (List.replicate (m + n) (.int .u64 0)) := ⟨_, rfl⟩
  have hb0 : WB w0 g (over full 0 (List.replicate (m + n) 0)) := by
    have := hb.setCells_ (List.replicate (m + n) 0) 0 (by simp; omega) (by intro x hx; rw [List.eq_of_mem_replicate hx]; exact B64_pos)
    rwa [List.map_replicate, show wv 0 = Value.int .u64 0 from rfl, ← hw0] at this
  have ho0 : Only g w w0 := by rw [hw0]; exact (Only.refl g w).setCells_ _ _
  rw [← hw0] at hcl
  have i1 : (m : Int) + (n : Int) ≤ (cz : Int) := by omega
  have i2 : (0 : Int) ≤ (m : Int) + (n : Int) := by omega
  have i3 : ((m : Int) + (n : Int)).toNat = m + n := by omega
  have HB0 := Lib.hid hb0; have HO0 := Lib.hid ho0; have HXL := Lib.hid hm; have HYL := Lib.hid hn; have HXB := Lib.hid hxb; have HYB := Lib.hid hyb; have HX := Lib.hid hx; have HY := Lib.hid hy
  clear hb hw0 hb0 ho0 hm hn hxb hyb hx hy
  go_enter Tryz.func261, Tryz.ntmps261
  go_wp2_with (simp only [hcl])
  clear hcl i2 i3
  go_loopw [17] (fun i wr => ∃ (k : Nat) (us : List Nat), k ≤ n ∧ i = .int .i64 k ∧ us.length = m + k ∧ (∀ d ∈ us, d < B64) ∧ natOf us = natOf xs * natOf (ys.take k) ∧ WB wr g (over full 0 (us ++ List.replicate (n - k) 0)) ∧ Only g w wr)
    (fun i _ => n - (intOf i).toNat)
  case atStart =>
    refine ⟨0, List.replicate m 0, Nat.zero_le _, rfl, by simp, ?_, ?_, ?_, HO0.out⟩
    · intro d hd; rw [List.eq_of_mem_replicate hd]; exact B64_pos
    · have := natOf_zeros [] m
      rw [List.nil_append] at this
      rw [this]; simp [natOf]
    · rw [Nat.sub_zero, List.replicate_append_replicate]; exact HB0.out
  case round =>
    obtain ⟨k, us, hk, rfl, hul, hub, hv, hblk, honly⟩ := hrel
    have HU := Lib.hid hul; have HUB := Lib.hid hub; have HV := Lib.hid hv; have HBK := Lib.hid hblk; have HO := Lib.hid honly
    clear hul hub hv hblk honly
    by_cases hlt : k < n
    · have hky : k < ys.length := by rw [HYL.out]; exact hlt
      obtain ⟨yk, hyk⟩ : ∃ yk, yk = ys[k] := ⟨_, rfl⟩
      have cyk : wr.cell? ⟨by_, oy + k, none⟩ = some (.int .u64 (yk : Int)) := by rw [hyk]; exact HO.out.cell (HY.out k hky) hby
      have HYK := Lib.hid hyk; have hykb : yk < B64 := by rw [hyk]; exact lt_of_get HYB.out k hky
      clear hyk
      have HR0 := Lib.hid (show List.replicate (n - k) 0 = 0 :: List.replicate (n - (k + 1)) 0 by rw [show n - k = (n - (k + 1)) + 1 by omega, List.replicate_succ])
      by_cases hy0 : yk = 0
      · subst hy0
        go_wp2
        go_roundw
        case rel =>
          refine ⟨k + 1, us ++ [0], by omega, by go_num, by simp [HU.out]; omega, lt_snoc HUB.out B64_pos, ?_, ?_, HO.out⟩
          · rw [natOf_snoc, natOf_take_succ _ _ hky, ← HYK.out, HV.out]; simp
          · have := HBK.out
            rw [HR0.out] at this
            rw [List.append_assoc]; exact this
        case measure => simp [intOf]; omega
      · have hne : (((yk : Nat) : Int) != 0) = true := by simp; omega
        have j0 : (0 : Int) ≤ (k : Int) + (m : Int) := by omega
        have j0' : (0 : Int) ≤ (m : Int) + (k : Int) := by omega
        have j8 : IntKind.i64.wrap ((k : Int) + (m : Int)) = (k : Int) + (m : Int) := by simp only [IntKind.wrap_i64]; omega
        have j9 : IntKind.i64.wrap ((m : Int) + (k : Int)) = (m : Int) + (k : Int) := by simp only [IntKind.wrap_i64]; omega
        have j1 : (k : Int) ≤ (k : Int) + (m : Int) := by omega
        have j2 : (k : Int) + (m : Int) ≤ (cz : Int) := by omega
        have j3 : (m : Int) + (k : Int) < (m : Int) + (n : Int) := by omega
        have j4 : ((k : Int) + (m : Int)).toNat = k + m := by omega
        have j5 : ((m : Int) + (k : Int)).toNat = m + k := by omega
        have j6 : ¬ cz = k := by omega
        have j7 : k + m - k = m := by omega
        have HFL := Lib.hid (show (us ++ List.replicate (n - k) 0).length = m + n by simp [HU.out]; omega)
        have HSR := Lib.hid (show Src wr g k g k (us.drop k) from ⟨fun x hx => HUB.out x (List.mem_of_mem_drop hx), fun j hj => by
          rw [List.length_drop] at hj
          have := HU.out
          refine HBK.out.cell (k + j) _ ?_
          rw [over_get (by rw [HFL.out]; omega), if_neg (by omega), if_pos (by rw [HFL.out]; omega), Nat.sub_zero, List.getElem?_append_left (by omega), List.getElem_drop, List.getElem?_eq_getElem], Or.inr ⟨rfl, rfl⟩⟩)
        have HSY := Lib.hid (show Src wr g k bx ox xs from ⟨HXB.out, fun j hj => HO.out.cell (HX.out j hj) hbx, Or.inl hbx⟩)
        have HOV := Lib.hid (show k + m ≤ (over full 0 (us ++ List.replicate (n - k) 0)).length by rw [over_length (by rw [HFL.out]; omega)]; omega)
        go_wp2_with (fail)
        go_region_held3 (fun _ => True) (first | exact trivial) (first | (go_at_call 298; refine (vAddMulVVWW g k (cz - k) g k (cz - k) bx ox cx yk 0 (over full 0 (us ++ List.replicate (n - k) 0)) (us.drop k) xs m _ (by omega) (by exact HBK.out) HOV.out (by exact HSR.out) (by rw [List.length_drop, HU.out]; omega) (by exact HSY.out) HXL.out hykb B64_pos).mono ?_; rintro e w2 ⟨ds, c2, rfl, hr⟩; obtain ⟨old, hold⟩ : ∃ old, w2.cell? ⟨g, m + k, none⟩ = some old := ⟨_, hr.2.2.2.2.1.cell (m + k) _ (List.getElem?_eq_getElem (by rw [over_length (by rw [hr.2.1]; exact HOV.out), over_length (by rw [HFL.out]; omega)]; omega))⟩; have hfz := hr.2.2.2.2.1.frozen (m + k); have HR := Lib.hid hr; clear hr))
        go_wp2
        go_roundw
        case rel =>
          refine ⟨k + 1, us.take k ++ ds ++ [c2], by omega, by go_num, ?_, ?_, ?_, ?_, ?_⟩
          · simp [HR.out.2.1, HU.out]; omega
          · refine lt_snoc ?_ HR.out.1
            intro x hx
            rcases List.mem_append.1 hx with h | h
            · exact HUB.out x (List.mem_of_mem_take h)
            · exact HR.out.2.2.1 x h
          · rw [natOf_snoc, natOf_append, List.length_append, HR.out.2.1, natOf_take_succ _ _ hky, ← HYK.out, Nat.mul_add, ← HV.out]
            have htl : (us.take k).length = k := by rw [List.length_take, HU.out]; omega
            rw [htl, Nat.pow_add, Nat.mul_assoc, Nat.add_assoc, ← Nat.mul_add]
            exact mul_step (natOf_cut (xs := us) (n := k) (by rw [HU.out]; omega)) (by have := HR.out.2.2.2.1; rwa [Nat.add_zero] at this)
          · have := HR.out.2.2.2.2.1.set_ (m + k) c2 HR.out.1
            rw [HR0.out, show m + k = k + ds.length by rw [HR.out.2.1]; omega, mul_over (by rw [HU.out, HR.out.2.1]; omega)] at this
            rw [List.append_assoc _ [c2], show m + k = k + ds.length by rw [HR.out.2.1]; omega]
            exact this
          · refine Only.set_ ?_ _ _
            have := HR.out.2.2.2.2.2
            exact HO.out.trans' ⟨this.os, this.tape, this.output, this.size, this.block⟩
        case measure => simp [intOf]; omega
    · obtain rfl : k = n := by omega
      go_wp2
      go_end0
      refine ⟨rfl, us, HU.out, HUB.out, ?_, ?_, HO.out⟩
      · rw [HV.out, take_all HYL.out]
      · have := HBK.out
        rwa [Nat.sub_self, List.replicate_zero, List.append_nil] at this

/-- A number made in new room: the receiver's room stands. -/
theorem RetN.fresh {gz N : Nat} {w : World} {e : Ending} {w' : World} (h : RetN w.heap.size N w e w') : RetN gz N w e w' := by
  obtain ⟨A, c, g, ws, rfl, hv, hn, hN, ho, hg⟩ := h
  exact ⟨A, c, g, ws, rfl, hv, hn, hN, Only.of_ext (Only.ext (Ext.refl _) ho (Nat.le_refl _)), Or.inr (by rcases hg with h | h; omega; exact h)⟩
theorem RetN.undrewN {gz N k : Nat} {w : World} {e : Ending} {w' : World} (h : RetN gz N (w.drewN k) e w') : RetN gz N w e w' := by
  obtain ⟨A, c, g, ws, rfl, hv, hn, hN, ho, hg⟩ := h
  exact ⟨A, c, g, ws, rfl, hv, hn, hN, ⟨ho.os, ho.tape, ho.output, ho.size, ho.block⟩, hg⟩
/-- Behind make, an operand that lies elsewhere. -/
theorem Opd.away {w w' : World} {gz cz g bx ox c : Nat} {xs : List Nat} (h : Opd w gz cz (some ⟨bx, ox, none⟩) c xs) (hn : xs ≠ []) (hm : Made gz g w w') (hs : bx ≠ gz) :
    bx ≠ g ∧ ∀ j (hj : j < xs.length), w'.cell? ⟨bx, ox + j, none⟩ = some (.int .u64 (xs[j] : Int)) := by
  obtain ⟨b', o', e, ⟨cs, hk⟩, hc, _⟩ := h.2.2 hn
  injection e with e; injection e with e1 e2 e3; subst e1; subst e2
  rcases hm with ⟨rfl, rfl⟩ | ⟨hg, e⟩
  · exact ⟨hs, hc⟩
  · exact ⟨by have := hk.lt; omega, fun j hj => e.cell' (hc j hj)⟩

theorem opd_new {w : World} {A : Option Addr} {c cz : Nat} {xs : List Nat} (h : Words w A xs) (hl : xs.length ≤ c) : Opd w w.heap.size cz A c xs :=
  ⟨h.1, hl, fun hn => by
    obtain ⟨g, o, hA, ⟨cs, hk⟩, hc⟩ := h.2 hn
    exact ⟨g, o, hA, ⟨cs, hk⟩, hc, Or.inl (by have := hk.lt; omega)⟩⟩
/-- Only draws were made. -/
abbrev Still (w w' : World) : Prop := ∃ k, w' = w.drewN k
theorem still_trans {a b c : World} (h : Still a b) (k : Still b c) : Still a c := by
  obtain ⟨i, rfl⟩ := h; obtain ⟨j, rfl⟩ := k; exact ⟨_, World.drewN_drewN _ _ _⟩
theorem still_size {w w' : World} (h : Still w w') : w'.heap.size = w.heap.size := by obtain ⟨k, rfl⟩ := h; rfl
theorem still_thr {w w' : World} (h : Still w w') (t : Thr w) : Thr w' := by obtain ⟨k, rfl⟩ := h; exact t
theorem natv_still {w w' : World} {A : Option Addr} {c g : Nat} {zs : List Nat} (h : NatV w A c g zs) (s : Still w w') : NatV w' A c g zs := by obtain ⟨k, rfl⟩ := s; exact h
theorem opd_still {w w' : World} {gz cz c : Nat} {A : Option Addr} {xs : List Nat} (h : Opd w gz cz A c xs) (s : Still w w') : Opd w' gz cz A c xs := by obtain ⟨k, rfl⟩ := s; exact h
theorem opd_free {w w' : World} {gz cz c : Nat} {A : Option Addr} {xs : List Nat} (h : Opd w gz cz A c xs) (s : Still w w') : Opd w' w'.heap.size 0 A c xs := opd_new (opd_still h s).words h.2.1
theorem still_ret {gz N : Nat} {w w1 : World} {e : Ending} {w' : World} (s : Still w w1) (h : RetN gz N w1 e w') : RetN gz N w e w' := by obtain ⟨k, rfl⟩ := s; exact h.undrewN

set_option maxRecDepth 100000 in
set_option maxHeartbeats 1000000 in
theorem gMulBnil (stk : Value) (n0 gz : Nat) (B D : Option Addr) (cb cd : Nat) (xs ys : List Nat) (m n : Nat) (w : World) (hx : Words w B xs) (hy : Words w D ys) (hm : xs.length = m) (hn : ys.length = n) (hmx : m ≤ 50000) (h1 : 1 < n) (h2 : n < 40) (hle : n ≤ m) (hcb : m ≤ cb) (hcd : n ≤ cd) (hT : Thr w) :
    Calls Tryz.prog 216 #[.slice none n0 0, stk, .slice B m cb, .slice D n cd] w (RetN gz (natOf xs * natOf ys) w) := by
  have hx := opd_new (cz := 0) hx (c := cb) (by omega)
  have hy := opd_new (cz := 0) hy (c := cd) (by omega)
  have hnx : xs ≠ [] := by intro e; subst e; simp at hm; omega
  have hny : ys ≠ [] := by intro e; subst e; simp at hn; omega
  have HX := Lib.hid hx; have HY := Lib.hid hy; have HXL := Lib.hid hm; have HYL := Lib.hid hn; have HT := Lib.hid hT
  obtain ⟨bx0, ox0, hB, ⟨csx, hkx⟩, _⟩ := hx.2.2 hnx
  subst hB
  obtain ⟨by0, oy0, hD, ⟨csy, hky⟩, _⟩ := hy.2.2 hny
  subst hD
  have hltx := Lib.hid hkx.lt; have hlty := Lib.hid hky.lt
  have e0 : decide ((m : Int) < (n : Int)) = false := by simp; omega
  have e1 : ((m : Int) == 0) = false := by simp; omega
  have e2 : ((n : Int) == 0) = false := by simp; omega
  have e3 : ((n : Int) == 1) = false := by simp; omega
  have e4 : decide ((n : Int) < 40) = true := by simp; omega
  have HA1 := Lib.hid (gAliasNil n0 (some ⟨bx0, ox0, none⟩) m cb w)
  clear hx hy hm hn hT hkx hky
  go_enter Tryz.func216, Tryz.ntmps216
  go_wp2_with (fail)
  go_at_call 260
  refine HA1.out.mono ?_
  rintro e w1 ⟨rfl, hs1⟩
  have HA2 := Lib.hid (gAliasNil n0 (some ⟨by0, oy0, none⟩) n cd w1)
  go_wp2_with (fail)
  go_at_call 260
  refine HA2.out.mono ?_
  rintro e w2 ⟨rfl, hs2⟩
  have HS := Lib.hid (still_trans hs1 hs2)
  clear hs1 hs2
  have H := Lib.hid (gMake none n0 0 w2.heap.size [] (m + n) w2 (NatV.nil _ _) (by omega) (by omega))
  rw [show ((m + n : Nat) : Int) = (m : Int) + (n : Int) by omega] at H
  go_wp2_with (fail)
  go_at_call 218
  refine H.out.mono ?_
  rintro e w3 ⟨g, c3, full, rfl, hc, hb, hl, hmd⟩
  have hxs := (opd_free HX.out HS.out).away hnx hmd (by rw [still_size HS.out]; have := hltx.out; omega)
  have hys := (opd_free HY.out HS.out).away hny hmd (by rw [still_size HS.out]; have := hlty.out; omega)
  have hT3 := (still_thr HS.out HT.out).made hmd
  have ct := hT3.2.2.1
  have HB := Lib.hid (vBasicMul g c3 bx0 ox0 cb by0 oy0 cd full xs ys m n w3 hb (by omega) (by omega) HXL.out HYL.out (by omega) (by omega) (by omega) (by omega) HX.out.1 HY.out.1 hxs.1 hys.1 hxs.2 hys.2)
  have HF := Lib.hid hl; have HM := Lib.hid hmd
  clear hb hl hmd hxs hys hT3
  go_wp2_with (fail)
  go_at_call 261
  refine HB.out.mono ?_
  rintro e w4 ⟨rfl, ds, hdl, hdb, hv, hwb, hon⟩
  have HN := Lib.hid (natNorm g 0 c3 ds (m + n) w4 hdl (by omega) hc.1 (wb_cells hwb (by rw [hdl]; have := HF.out; omega)))
  have HV := Lib.hid hv; have HW := Lib.hid hwb; have HO := Lib.hid hon; have HDL := Lib.hid hdl
  clear hdl hdb hv hwb hon
  go_wp2_with (fail)
  go_at_call 221
  refine HN.out.mono ?_
  rintro e w5 ⟨es, rfl, rfl, he, hN, hve⟩
  have HE := Lib.hid he; have HEN := Lib.hid hN; have HEV := Lib.hid hve; clear he hN hve
  go_wp2
  go_ret
  exact still_ret HS.out <| RetN.fresh <| (norm_end HM.out HO.out HW.out HF.out (by omega) (by rw [HDL.out]; omega) HE.out HEN.out HEV.out HV.out)

set_option maxRecDepth 100000 in
set_option maxHeartbeats 1600000 in
theorem gMulBsome (stk : Value) (n0 c gz : Nat) (zs : List Nat) (B D : Option Addr) (cb cd : Nat) (xs ys : List Nat) (m n : Nat) (w : World) (hz : NatV w (some ⟨gz, 0, none⟩) c gz zs) (hx : Opd w gz c B cb xs) (hy : Opd w gz c D cd ys) (hm : xs.length = m) (hn : ys.length = n) (hmx : m ≤ 50000) (h1 : 1 < n) (h2 : n < 40) (hle : n ≤ m) (hcb : cb ≤ 1000000) (hcd : cd ≤ 1000000) (hT : Thr w) :
    Calls Tryz.prog 216 #[.slice (some ⟨gz, 0, none⟩) n0 c, stk, .slice B m cb, .slice D n cd] w (RetN gz (natOf xs * natOf ys) w) := by
  have hnx : xs ≠ [] := by intro e; subst e; simp at hm; omega
  have hny : ys ≠ [] := by intro e; subst e; simp at hn; omega
  have HX := Lib.hid hx; have HY := Lib.hid hy; have HXL := Lib.hid hm; have HYL := Lib.hid hn; have HT := Lib.hid hT
  obtain ⟨bx0, ox0, hB, ⟨csx, hkx⟩, _⟩ := hx.2.2 hnx
  subst hB
  obtain ⟨by0, oy0, hD, ⟨csy, hky⟩, _⟩ := hy.2.2 hny
  subst hD
  have hltx := Lib.hid hkx.lt; have hlty := Lib.hid hky.lt
  have e0 : decide ((m : Int) < (n : Int)) = false := by simp; omega
  have e1 : ((m : Int) == 0) = false := by simp; omega
  have e2 : ((n : Int) == 0) = false := by simp; omega
  have e3 : ((n : Int) == 1) = false := by simp; omega
  have e4 : decide ((n : Int) < 40) = true := by simp; omega
  have HZ := Lib.hid hz
  have HA1 := Lib.hid (gAlias _ n0 c gz zs _ m cb xs w hz hx hnx (Or.inr hcb))
  have HA2 : Hid (∀ w1, (∃ k, w1 = w.drewN k) → Calls Tryz.prog 260 #[.slice (some ⟨gz, 0, none⟩) n0 c, .slice (some ⟨by0, oy0, none⟩) n cd] w1 (RetAl (some ⟨gz, 0, none⟩) (some ⟨by0, oy0, none⟩) gz w1)) := fun w1 hs => gAlias _ n0 c gz zs _ n cd ys w1 (natv_still HZ.out hs) (opd_still HY.out hs) hny (Or.inr hcd)
  clear hx hy hm hn hT hkx hky hz
  go_enter Tryz.func216, Tryz.ntmps216
  go_wp2_with (fail)
  go_at_call 260
  refine HA1.out.mono ?_
  rintro e w1 ⟨b1, hb1, rfl, hs1⟩
  cases b1
  case true =>
    have HS := Lib.hid hs1
    clear hb1 hs1
    have H := Lib.hid (gMake none 0 0 w1.heap.size [] (m + n) w1 (NatV.nil _ _) (by omega) (by omega))
    rw [show ((m + n : Nat) : Int) = (m : Int) + (n : Int) by omega] at H
    go_wp2_with (fail)
    go_at_call 218
    refine H.out.mono ?_
    rintro e w3 ⟨g, c3, full, rfl, hc, hb, hl, hmd⟩
    have hxs := (opd_free HX.out HS.out).away hnx hmd (by rw [still_size HS.out]; have := hltx.out; omega)
    have hys := (opd_free HY.out HS.out).away hny hmd (by rw [still_size HS.out]; have := hlty.out; omega)
    have hT3 := (still_thr HS.out HT.out).made hmd
    have ct := hT3.2.2.1
    have HB := Lib.hid (vBasicMul g c3 bx0 ox0 cb by0 oy0 cd full xs ys m n w3 hb (by omega) (by omega) HXL.out HYL.out (by omega) (by omega) (by omega) (by omega) HX.out.1 HY.out.1 hxs.1 hys.1 hxs.2 hys.2)
    have HF := Lib.hid hl; have HM := Lib.hid hmd
    clear hb hl hmd hxs hys hT3
    go_wp2_with (fail)
    go_at_call 261
    refine HB.out.mono ?_
    rintro e w4 ⟨rfl, ds, hdl, hdb, hv, hwb, hon⟩
    have HN := Lib.hid (natNorm g 0 c3 ds (m + n) w4 hdl (by omega) hc.1 (wb_cells hwb (by rw [hdl]; have := HF.out; omega)))
    have HV := Lib.hid hv; have HW := Lib.hid hwb; have HO := Lib.hid hon; have HDL := Lib.hid hdl
    clear hdl hdb hv hwb hon
    go_wp2_with (fail)
    go_at_call 221
    refine HN.out.mono ?_
    rintro e w5 ⟨es, rfl, rfl, he, hN, hve⟩
    have HE := Lib.hid he; have HEN := Lib.hid hN; have HEV := Lib.hid hve; clear he hN hve
    go_wp2
    go_ret
    exact still_ret HS.out <| RetN.fresh <| (norm_end HM.out HO.out HW.out HF.out (by omega) (by rw [HDL.out]; omega) HE.out HEN.out HEV.out HV.out)
  case false =>
    have hbx : bx0 ≠ gz := by
      rcases hb1 rfl with h | h
      · cases h
      · exact h _ rfl
    clear hb1
    go_wp2_with (fail)
    go_at_call 260
    refine (HA2.out w1 hs1).mono ?_
    rintro e w2 ⟨b2, hb2, rfl, hs2⟩
    have HS := Lib.hid (still_trans hs1 hs2)
    clear hs1 hs2
    cases b2
    case true =>
      clear hb2
      have H := Lib.hid (gMake none 0 0 w2.heap.size [] (m + n) w2 (NatV.nil _ _) (by omega) (by omega))
      rw [show ((m + n : Nat) : Int) = (m : Int) + (n : Int) by omega] at H
      go_wp2_with (fail)
      go_at_call 218
      refine H.out.mono ?_
      rintro e w3 ⟨g, c3, full, rfl, hc, hb, hl, hmd⟩
      have hxs := (opd_free HX.out HS.out).away hnx hmd (by rw [still_size HS.out]; have := hltx.out; omega)
      have hys := (opd_free HY.out HS.out).away hny hmd (by rw [still_size HS.out]; have := hlty.out; omega)
      have hT3 := (still_thr HS.out HT.out).made hmd
      have ct := hT3.2.2.1
      have HB := Lib.hid (vBasicMul g c3 bx0 ox0 cb by0 oy0 cd full xs ys m n w3 hb (by omega) (by omega) HXL.out HYL.out (by omega) (by omega) (by omega) (by omega) HX.out.1 HY.out.1 hxs.1 hys.1 hxs.2 hys.2)
      have HF := Lib.hid hl; have HM := Lib.hid hmd
      clear hb hl hmd hxs hys hT3
      go_wp2_with (fail)
      go_at_call 261
      refine HB.out.mono ?_
      rintro e w4 ⟨rfl, ds, hdl, hdb, hv, hwb, hon⟩
      have HN := Lib.hid (natNorm g 0 c3 ds (m + n) w4 hdl (by omega) hc.1 (wb_cells hwb (by rw [hdl]; have := HF.out; omega)))
      have HV := Lib.hid hv; have HW := Lib.hid hwb; have HO := Lib.hid hon; have HDL := Lib.hid hdl
      clear hdl hdb hv hwb hon
      go_wp2_with (fail)
      go_at_call 221
      refine HN.out.mono ?_
      rintro e w5 ⟨es, rfl, rfl, he, hN, hve⟩
      have HE := Lib.hid he; have HEN := Lib.hid hN; have HEV := Lib.hid hve; clear he hN hve
      go_wp2
      go_ret
      exact still_ret HS.out <| RetN.fresh <| (norm_end HM.out HO.out HW.out HF.out (by omega) (by rw [HDL.out]; omega) HE.out HEN.out HEV.out HV.out)
    case false =>
      have hby : by0 ≠ gz := by
        rcases hb2 rfl with h | h
        · cases h
        · exact h _ rfl
      clear hb2
      have H := Lib.hid (gMake (some ⟨gz, 0, none⟩) n0 c gz zs (m + n) w2 (natv_still HZ.out HS.out) (by omega) (by omega))
      rw [show ((m + n : Nat) : Int) = (m : Int) + (n : Int) by omega] at H
      go_wp2_with (fail)
      go_at_call 218
      refine H.out.mono ?_
      rintro e w3 ⟨g, c3, full, rfl, hc, hb, hl, hmd⟩
      have hxs := (opd_still HX.out HS.out).away hnx hmd hbx
      have hys := (opd_still HY.out HS.out).away hny hmd hby
      have hT3 := (still_thr HS.out HT.out).made hmd
      have ct := hT3.2.2.1
      have HB := Lib.hid (vBasicMul g c3 bx0 ox0 cb by0 oy0 cd full xs ys m n w3 hb (by omega) (by omega) HXL.out HYL.out (by omega) (by omega) (by omega) (by omega) HX.out.1 HY.out.1 hxs.1 hys.1 hxs.2 hys.2)
      have HF := Lib.hid hl; have HM := Lib.hid hmd
      clear hb hl hmd hxs hys hT3
      go_wp2_with (fail)
      go_at_call 261
      refine HB.out.mono ?_
      rintro e w4 ⟨rfl, ds, hdl, hdb, hv, hwb, hon⟩
      have HN := Lib.hid (natNorm g 0 c3 ds (m + n) w4 hdl (by omega) hc.1 (wb_cells hwb (by rw [hdl]; have := HF.out; omega)))
      have HV := Lib.hid hv; have HW := Lib.hid hwb; have HO := Lib.hid hon; have HDL := Lib.hid hdl
      clear hdl hdb hv hwb hon
      go_wp2_with (fail)
      go_at_call 221
      refine HN.out.mono ?_
      rintro e w5 ⟨es, rfl, rfl, he, hN, hve⟩
      have HE := Lib.hid he; have HEN := Lib.hid hN; have HEV := Lib.hid hve; clear he hN hve
      go_wp2
      go_ret
      exact still_ret HS.out <| (norm_end HM.out HO.out HW.out HF.out (by omega) (by rw [HDL.out]; omega) HE.out HEN.out HEV.out HV.out)

set_option maxRecDepth 100000 in
set_option maxHeartbeats 1000000 in
theorem gSqrBnil (stk : Value) (n0 gz : Nat) (B : Option Addr) (cb : Nat) (xs : List Nat) (n : Nat) (w : World) (hx : Words w B xs) (hm : xs.length = n) (h1 : 1 < n) (h2 : n < 12) (hcb : n ≤ cb) (hT : Thr w) :
    Calls Tryz.prog 215 #[.slice none n0 0, stk, .slice B n cb] w (RetN gz (natOf xs * natOf xs) w) := by
  have hx := opd_new (cz := 0) hx (c := cb) (by omega)
  have hnx : xs ≠ [] := by intro e; subst e; simp at hm; omega
  have HX := Lib.hid hx; have HXL := Lib.hid hm; have HT := Lib.hid hT
  obtain ⟨bx0, ox0, hB, ⟨csx, hkx⟩, _⟩ := hx.2.2 hnx
  subst hB
  have hltx := Lib.hid hkx.lt; skip
  have e1 : ((n : Int) == 0) = false := by simp; omega
  have e2 : ((n : Int) == 1) = false := by simp; omega
  have e3 : decide ((n : Int) < 12) = true := by simp; omega
  have e4 : decide ((n : Int) < 80) = true := by simp; omega
  have HA1 := Lib.hid (gAliasNil n0 (some ⟨bx0, ox0, none⟩) n cb w)
  clear hx hm hT hkx
  go_enter Tryz.func215, Tryz.ntmps215
  go_wp2_with (fail)
  go_at_call 260
  refine HA1.out.mono ?_
  rintro e w2 ⟨rfl, hs1⟩
  have HS := Lib.hid hs1
  clear hs1
  have H := Lib.hid (gMake none n0 0 w2.heap.size [] (n + n) w2 (NatV.nil _ _) (by omega) (by omega))
  rw [show ((n + n : Nat) : Int) = 2 * (n : Int) by omega] at H
  go_wp2_with (fail)
  go_at_call 218
  refine H.out.mono ?_
  rintro e w3 ⟨g, c3, full, rfl, hc, hb, hl, hmd⟩
  have hxs := (opd_free HX.out HS.out).away hnx hmd (by rw [still_size HS.out]; have := hltx.out; omega)
  have hT3 := (still_thr HS.out HT.out).made hmd
  have ct := hT3.1; have ct2 := hT3.2.1
  have HB := Lib.hid (vBasicMul g c3 bx0 ox0 cb bx0 ox0 cb full xs xs n n w3 hb (by omega) (by omega) HXL.out HXL.out (by omega) (by omega) (by omega) (by omega) HX.out.1 HX.out.1 hxs.1 hxs.1 hxs.2 hxs.2)
  have HF := Lib.hid hl; have HM := Lib.hid hmd
  clear hb hl hmd hxs hT3
  go_wp2_with (fail)
  go_at_call 261
  refine HB.out.mono ?_
  rintro e w4 ⟨rfl, ds, hdl, hdb, hv, hwb, hon⟩
  have HN := Lib.hid (natNorm g 0 c3 ds (n + n) w4 hdl (by omega) hc.1 (wb_cells hwb (by rw [hdl]; have := HF.out; omega)))
  have HV := Lib.hid hv; have HW := Lib.hid hwb; have HO := Lib.hid hon; have HDL := Lib.hid hdl
  clear hdl hdb hv hwb hon
  go_wp2_with (fail)
  go_at_call 221
  refine HN.out.mono ?_
  rintro e w5 ⟨es, rfl, rfl, he, hN, hve⟩
  have HE := Lib.hid he; have HEN := Lib.hid hN; have HEV := Lib.hid hve; clear he hN hve
  go_wp2
  go_ret
  exact still_ret HS.out <| RetN.fresh <| (norm_end HM.out HO.out HW.out HF.out (by omega) (by rw [HDL.out]; omega) HE.out HEN.out HEV.out HV.out)

set_option maxRecDepth 100000 in
set_option maxHeartbeats 1600000 in
theorem gSqrBsome (stk : Value) (n0 c gz : Nat) (zs : List Nat) (B : Option Addr) (cb : Nat) (xs : List Nat) (n : Nat) (w : World) (hz : NatV w (some ⟨gz, 0, none⟩) c gz zs) (hx : Opd w gz c B cb xs) (hm : xs.length = n) (h1 : 1 < n) (h2 : n < 12) (hcb : cb ≤ 1000000) (hT : Thr w) :
    Calls Tryz.prog 215 #[.slice (some ⟨gz, 0, none⟩) n0 c, stk, .slice B n cb] w (RetN gz (natOf xs * natOf xs) w) := by
  have hnx : xs ≠ [] := by intro e; subst e; simp at hm; omega
  have HX := Lib.hid hx; have HXL := Lib.hid hm; have HT := Lib.hid hT
  obtain ⟨bx0, ox0, hB, ⟨csx, hkx⟩, _⟩ := hx.2.2 hnx
  subst hB
  have hltx := Lib.hid hkx.lt; skip
  have e1 : ((n : Int) == 0) = false := by simp; omega
  have e2 : ((n : Int) == 1) = false := by simp; omega
  have e3 : decide ((n : Int) < 12) = true := by simp; omega
  have e4 : decide ((n : Int) < 80) = true := by simp; omega
  have HZ := Lib.hid hz
  have HA1 := Lib.hid (gAlias _ n0 c gz zs _ n cb xs w hz hx hnx (Or.inr hcb))
  clear hx hm hT hkx hz
  go_enter Tryz.func215, Tryz.ntmps215
  go_wp2_with (fail)
  go_at_call 260
  refine HA1.out.mono ?_
  rintro e w2 ⟨b1, hb1, rfl, hs1⟩
  have HS := Lib.hid hs1
  clear hs1
  cases b1
  case true =>
    clear hb1
    have H := Lib.hid (gMake none 0 0 w2.heap.size [] (n + n) w2 (NatV.nil _ _) (by omega) (by omega))
    rw [show ((n + n : Nat) : Int) = 2 * (n : Int) by omega] at H
    go_wp2_with (fail)
    go_at_call 218
    refine H.out.mono ?_
    rintro e w3 ⟨g, c3, full, rfl, hc, hb, hl, hmd⟩
    have hxs := (opd_free HX.out HS.out).away hnx hmd (by rw [still_size HS.out]; have := hltx.out; omega)
    have hT3 := (still_thr HS.out HT.out).made hmd
    have ct := hT3.1; have ct2 := hT3.2.1
    have HB := Lib.hid (vBasicMul g c3 bx0 ox0 cb bx0 ox0 cb full xs xs n n w3 hb (by omega) (by omega) HXL.out HXL.out (by omega) (by omega) (by omega) (by omega) HX.out.1 HX.out.1 hxs.1 hxs.1 hxs.2 hxs.2)
    have HF := Lib.hid hl; have HM := Lib.hid hmd
    clear hb hl hmd hxs hT3
    go_wp2_with (fail)
    go_at_call 261
    refine HB.out.mono ?_
    rintro e w4 ⟨rfl, ds, hdl, hdb, hv, hwb, hon⟩
    have HN := Lib.hid (natNorm g 0 c3 ds (n + n) w4 hdl (by omega) hc.1 (wb_cells hwb (by rw [hdl]; have := HF.out; omega)))
    have HV := Lib.hid hv; have HW := Lib.hid hwb; have HO := Lib.hid hon; have HDL := Lib.hid hdl
    clear hdl hdb hv hwb hon
    go_wp2_with (fail)
    go_at_call 221
    refine HN.out.mono ?_
    rintro e w5 ⟨es, rfl, rfl, he, hN, hve⟩
    have HE := Lib.hid he; have HEN := Lib.hid hN; have HEV := Lib.hid hve; clear he hN hve
    go_wp2
    go_ret
    exact still_ret HS.out <| RetN.fresh <| (norm_end HM.out HO.out HW.out HF.out (by omega) (by rw [HDL.out]; omega) HE.out HEN.out HEV.out HV.out)
  case false =>
    have hbx : bx0 ≠ gz := by
      rcases hb1 rfl with h | h
      · cases h
      · exact h _ rfl
    clear hb1
    have H := Lib.hid (gMake (some ⟨gz, 0, none⟩) n0 c gz zs (n + n) w2 (natv_still HZ.out HS.out) (by omega) (by omega))
    rw [show ((n + n : Nat) : Int) = 2 * (n : Int) by omega] at H
    go_wp2_with (fail)
    go_at_call 218
    refine H.out.mono ?_
    rintro e w3 ⟨g, c3, full, rfl, hc, hb, hl, hmd⟩
    have hxs := (opd_still HX.out HS.out).away hnx hmd hbx
    have hT3 := (still_thr HS.out HT.out).made hmd
    have ct := hT3.1; have ct2 := hT3.2.1
    have HB := Lib.hid (vBasicMul g c3 bx0 ox0 cb bx0 ox0 cb full xs xs n n w3 hb (by omega) (by omega) HXL.out HXL.out (by omega) (by omega) (by omega) (by omega) HX.out.1 HX.out.1 hxs.1 hxs.1 hxs.2 hxs.2)
    have HF := Lib.hid hl; have HM := Lib.hid hmd
    clear hb hl hmd hxs hT3
    go_wp2_with (fail)
    go_at_call 261
    refine HB.out.mono ?_
    rintro e w4 ⟨rfl, ds, hdl, hdb, hv, hwb, hon⟩
    have HN := Lib.hid (natNorm g 0 c3 ds (n + n) w4 hdl (by omega) hc.1 (wb_cells hwb (by rw [hdl]; have := HF.out; omega)))
    have HV := Lib.hid hv; have HW := Lib.hid hwb; have HO := Lib.hid hon; have HDL := Lib.hid hdl
    clear hdl hdb hv hwb hon
    go_wp2_with (fail)
    go_at_call 221
    refine HN.out.mono ?_
    rintro e w5 ⟨es, rfl, rfl, he, hN, hve⟩
    have HE := Lib.hid he; have HEN := Lib.hid hN; have HEV := Lib.hid hve; clear he hN hve
    go_wp2
    go_ret
    exact still_ret HS.out <| (norm_end HM.out HO.out HW.out HF.out (by omega) (by rw [HDL.out]; omega) HE.out HEN.out HEV.out HV.out)

set_option maxRecDepth 100000 in
/-- sqr of one word. -/
theorem gSqr1 (stk : Value) (A : Option Addr) (n0 c gz : Nat) (zs : List Nat) (B : Option Addr) (cb : Nat) (x : Nat) (w : World) (hz : NatV w A c gz zs) (hx : Opd w gz c B cb [x]) :
    Calls Tryz.prog 215 #[.slice A n0 c, stk, .slice B 1 cb] w (RetN gz (natOf [x] * natOf [x]) w) := by
  have hxb := hx.1 x (by simp)
  have H := Lib.hid (gMake A n0 c gz zs 2 w hz (by omega) (by omega))
  obtain ⟨bx, ox, rfl, _, hcell, _⟩ := hx.2.2 (by simp)
  have hcx : w.cell? ⟨bx, ox, none⟩ = some (.int .u64 (x : Int)) := hcell 0 (by simp)
  have hcb : 1 ≤ cb := hx.2.1
  have HW := fun W => Lib.hid (gMulWW x x hxb hxb W)
  obtain ⟨p, hp⟩ : ∃ p, p = x * x / B64 := ⟨_, rfl⟩
  obtain ⟨q, hq⟩ : ∃ q, q = x * x % B64 := ⟨_, rfl⟩
  have hpq : q + B64 * p = x * x := by rw [hp, hq]; have := Nat.div_add_mod (x * x) B64; omega
  have hqb : q < B64 := by rw [hq]; exact Nat.mod_lt _ B64_pos
  have hpb : p < B64 := by
    rw [hp]; refine (Nat.div_lt_iff_lt_mul B64_pos).2 ?_
    exact Nat.mul_lt_mul'' hxb hxb
  rw [← hp, ← hq] at HW
  have HPQ := Lib.hid hpq
  clear hp hq hpq hz hx hcell hxb
  go_enter Tryz.func215, Tryz.ntmps215
  go_wp2_with (fail)
  go_at_call 218
  refine H.out.mono ?_
  rintro e w1 ⟨g, c', full, rfl, hc, hb, hl, hm⟩
  have HWW := HW w1
  clear HW
  obtain ⟨old1, hold1⟩ : ∃ old, w1.cell? ⟨g, 1, none⟩ = some old := ⟨_, hb.cell 1 _ (List.getElem?_eq_getElem (by omega))⟩
  have hfz1 := hb.frozen 1
  have hs1 := hb.set_ 1 p hpb
  obtain ⟨old0, hold0⟩ : ∃ old, (w1.setCell ⟨g, 1, none⟩ (.int .u64 (p : Int))).cell? ⟨g, 0, none⟩ = some old := ⟨_, hs1.cell 0 _ (List.getElem?_eq_getElem (by simp; omega))⟩
  have hfz0 := hs1.frozen 0
  have hs0 := hs1.set_ 0 q hqb
  have hs2 : WB ((w1.setCell ⟨g, 1, none⟩ (.int .u64 (p : Int))).setCell ⟨g, 0, none⟩ (.int .u64 (q : Int))) g (over full 0 [q, p]) := by
    have e1 := over_snoc (ws := full) (o := 1) (ds := []) p (by simp; omega)
    rw [over_nil] at e1
    simp only [List.length_nil, Nat.add_zero, List.nil_append] at e1
    have e2 := over_cons (ws := full) (o := 0) (ds := [p]) q (by simp; omega)
    rw [Nat.zero_add] at e2
    rw [e1, e2] at hs0
    exact hs0
  have HN := Lib.hid (natNorm g 0 c' [q, p] 2 _ rfl (by omega) hc.1 (wb_cells hs2 (by simp; omega)))
  have HB := Lib.hid hs2; have HL := Lib.hid hl; have HM := Lib.hid hm; clear hb hl hm hs1 hs0 hs2
  go_wp2_with (first | (go_at_call 259; refine HWW.out.mono ?_; rintro e w' ⟨rfl, rfl⟩) | (go_at_call 221; refine HN.out.mono ?_; rintro e w' ⟨es, rfl, rfl, hes⟩; have HE := Lib.hid hes; clear hes))
  go_ret
  exact norm_end HM.out (((Only.refl _ _).set_ _ _).set_ _ _) HB.out HL.out (by omega) (by simp; omega) HE.out.1 HE.out.2.1 HE.out.2.2 (by rw [natOf_one]; simp only [natOf]; have := HPQ.out; omega)

/-- mul, for any receiver. -/
theorem gMulN (stk : Option Addr) (A : Option Addr) (n0 c gz : Nat) (zs : List Nat) (B D : Option Addr) (cb cd : Nat) (xs ys : List Nat) (m n : Nat) (w : World) (hz : NatV w A c gz zs) (hx : Opd w gz c B cb xs) (hy : Opd w gz c D cd ys) (hm : xs.length = m) (hn : ys.length = n) (hmx : m ≤ 50000) (h1 : 1 < n) (h2 : n < 40) (hle : n ≤ m) (hcb : cb ≤ 1000000) (hcd : cd ≤ 1000000) (hT : Thr w) :
    Calls Tryz.prog 216 #[.slice A n0 c, .pointer stk, .slice B m cb, .slice D n cd] w (RetN gz (natOf xs * natOf ys) w) := by
  rcases hz with ⟨rfl, rfl, _⟩ | ⟨rfl, hr⟩
  · exact gMulBnil (.pointer stk) n0 gz B D cb cd xs ys m n w hx.words hy.words hm hn hmx h1 h2 hle (by have := hx.2.1; omega) (by have := hy.2.1; omega) hT
  · exact gMulBsome (.pointer stk) n0 c gz zs B D cb cd xs ys m n w (Or.inr ⟨rfl, hr⟩) hx hy hm hn hmx h1 h2 hle hcb hcd hT
set_option maxRecDepth 100000 in
/-- mul, of numbers of fewer than 40 words. -/
theorem gMulAll (stk : Option Addr) (A : Option Addr) (n0 c gz : Nat) (zs : List Nat) (B D : Option Addr) (cb cd : Nat) (xs ys : List Nat) (m n : Nat) (w : World) (hz : NatV w A c gz zs) (hx : Opd w gz c B cb xs) (hy : Opd w gz c D cd ys) (hm : xs.length = m) (hn : ys.length = n) (hmx : m < 40) (hnx : n < 40) (hcb : cb ≤ 1000000) (hcd : cd ≤ 1000000) (hT : Thr w) :
    Calls Tryz.prog 216 #[.slice A n0 c, .pointer stk, .slice B m cb, .slice D n cd] w (RetN gz (natOf xs * natOf ys) w) := by
  by_cases h1 : n ≤ 1 ∨ m ≤ 1
  · exact gMul1 A n0 c gz zs B D cb cd xs ys m n w hz hx hy hm hn (by omega) (by omega) h1
  · by_cases hle : n ≤ m
    · exact gMulN stk A n0 c gz zs B D cb cd xs ys m n w hz hx hy hm hn (by omega) (by omega) (by omega) hle hcb hcd hT
    · have H := Lib.hid (gMulN stk A n0 c gz zs D B cd cb ys xs n m w hz hy hx hn hm (by omega) (by omega) (by omega) (by omega) hcd hcb hT)
      rw [Nat.mul_comm] at H
      have e0 : decide ((m : Int) < (n : Int)) = true := by simp; omega
      clear hz hx hy hT
      go_enter Tryz.func216, Tryz.ntmps216
      go_wp2_with (fail)
      go_at_call 216
      refine H.out.mono ?_
      rintro e w1 ⟨A1, c1, g1, ws, rfl, hR⟩
      have HR := Lib.hid hR; clear hR
      go_wp2
      go_ret
      exact ⟨A1, c1, g1, ws, rfl, HR.out⟩
theorem gSqrN (stk : Option Addr) (A : Option Addr) (n0 c gz : Nat) (zs : List Nat) (B : Option Addr) (cb : Nat) (xs : List Nat) (n : Nat) (w : World) (hz : NatV w A c gz zs) (hx : Opd w gz c B cb xs) (hm : xs.length = n) (h1 : 1 ≤ n) (h2 : n < 12) (hcb : cb ≤ 1000000) (hT : Thr w) :
    Calls Tryz.prog 215 #[.slice A n0 c, .pointer stk, .slice B n cb] w (RetN gz (natOf xs * natOf xs) w) := by
  rcases Nat.lt_or_ge 1 n with h | h
  · rcases hz with ⟨rfl, rfl, _⟩ | ⟨rfl, hr⟩
    · exact gSqrBnil (.pointer stk) n0 gz B cb xs n w hx.words hm h h2 (by have := hx.2.1; omega) hT
    · exact gSqrBsome (.pointer stk) n0 c gz zs B cb xs n w (Or.inr ⟨rfl, hr⟩) hx hm h h2 hcb hT
  · obtain rfl : n = 1 := by omega
    obtain ⟨x, rfl⟩ := List.length_eq_one_iff.1 hm
    exact gSqr1 (.pointer stk) A n0 c gz zs B cb x w hz hx
end Go.Proofs.YtfafiahefjimdaaGreatDoor

namespace Go.Proofs.YtfafiahefjimdaaGreatDoor
open Go Go.RowKit

/-- The room of a receiver, at the moment of an operation. -/
def RoomAt (w : World) (A : Option Addr) (g gz : Nat) : Prop := (A = none ∧ gz = w.heap.size) ∨ (A = some ⟨g, 0, none⟩ ∧ gz = g ∧ ∃ full, WB w g full ∧ 0 < full.length)
theorem room_now {w : World} {A : Option Addr} {c g : Nat} {ws : List Nat} (h : NatV w A c g ws) : ∃ gz, NatV w A c gz ws ∧ RoomAt w A g gz := by
  rcases h with ⟨h1, h2, h3⟩ | ⟨h1, h2, h3, full, hb, hl, he⟩
  · exact ⟨w.heap.size, Or.inl ⟨h1, h2, h3⟩, Or.inl ⟨h1, rfl⟩⟩
  · exact ⟨g, Or.inr ⟨h1, h2, h3, full, hb, hl, he⟩, Or.inr ⟨h1, rfl, full, hb, by omega⟩⟩
/-- A number in room that is newer than w0. -/
def Num (w0 w : World) (A : Option Addr) (c g : Nat) (ws : List Nat) : Prop := NatV w A c g ws ∧ (A = none ∨ w0.heap.size ≤ g)
def Apart (A : Option Addr) (g : Nat) (A2 : Option Addr) (g2 : Nat) : Prop := A = none ∨ A2 = none ∨ g ≠ g2
theorem Num.nil (w0 w : World) (g : Nat) : Num w0 w none 0 g [] := ⟨NatV.nil _ _, Or.inl rfl⟩
theorem NatV.lt_size {w : World} {A : Option Addr} {c g : Nat} {ws : List Nat} (h : NatV w A c g ws) (hn : A ≠ none) : g < w.heap.size := by
  rcases h with ⟨h, _⟩ | ⟨_, _, _, full, hb, _⟩
  · exact absurd h hn
  · exact hb.lt
theorem room_only {w w1 : World} {A : Option Addr} {g gz : Nat} (h : RoomAt w A g gz) (o : Only gz w w1) : (∀ s t cs, 221 ≠ t → Blk w s t cs → Blk w1 s t cs) ∧ (Thr w → Thr w1) := by
  rcases h with ⟨_, rfl⟩ | ⟨_, rfl, full, hb, hl⟩
  · have e : Ext w w1 := Only.ext (Ext.refl _) o (Nat.le_refl _)
    exact ⟨fun s t cs _ hb => hb.ext e, fun h => h.ext e⟩
  · exact ⟨fun s t cs ht hk => o.block' hk (hk.ne hb.1 (Ne.symm ht)), fun h => h.only hb hl o⟩
/-- An operand of the room's neighbour. -/
theorem opd_apart {w : World} {A A2 : Option Addr} {c g g2 gz cz : Nat} {ws : List Nat} (h : NatV w A c g ws) (hr : RoomAt w A2 g2 gz) (ha : Apart A g A2 g2) : Opd w gz cz A c ws := by
  refine ⟨h.lt64, h.le, fun hn => ?_⟩
  obtain ⟨hA, hb, hc⟩ := h.cell hn
  have hne : A ≠ none := by rw [hA]; simp
  refine ⟨g, 0, hA, hb, hc, Or.inl ?_⟩
  rcases hr with ⟨_, rfl⟩ | ⟨h2, rfl, _⟩
  · have := h.lt_size hne; omega
  · rcases ha with h | h | h
    · exact absurd h hne
    · rw [h] at h2; cases h2
    · exact h
theorem room_ge {w0 w : World} {A : Option Addr} {c g gz : Nat} {ws : List Nat} (h : Num w0 w A c g ws) (hr : RoomAt w A g gz) (e : Ext w0 w) : w0.heap.size ≤ gz := by
  rcases hr with ⟨_, rfl⟩ | ⟨h2, rfl, _⟩
  · exact e.size
  · rcases h.2 with h | h
    · rw [h] at h2; cases h2
    · exact h
/-- One operation of the power's loop: the neighbour's room has been filled. -/
theorem exp_step {w0 w w1 : World} {A A2 : Option Addr} {c g c2 g2 gz N : Nat} {ws ws2 : List Nat} {e : Ending} (hE : Ext w0 w) (hz : Num w0 w A c g ws) (h2 : Num w0 w A2 c2 g2 ws2) (ha : Apart A g A2 g2) (hrm : RoomAt w A2 g2 gz) (hr : RetN gz N w e w1) :
    ∃ A' c' g' ws', e = .returned (.slice A' ws'.length c') ∧ Num w0 w1 A' c' g' ws' ∧ Norm ws' ∧ natOf ws' = N ∧ Num w0 w1 A c g ws ∧ Apart A' g' A g ∧ Ext w0 w1 ∧ Only gz w w1 := by
  obtain ⟨A', c', g', ws', rfl, hv, hn, hN, ho, hg⟩ := hr
  have hge := room_ge h2 hrm hE
  have hgA : A ≠ none → g ≠ gz := by
    intro hne
    rcases hrm with ⟨_, rfl⟩ | ⟨k2, rfl, _⟩
    · have := hz.1.lt_size hne; omega
    · rcases ha with h | h | h
      · exact absurd h hne
      · rw [h] at k2; cases k2
      · exact h
  refine ⟨A', c', g', ws', rfl, ⟨hv, Or.inr ?_⟩, hn, hN, ⟨hz.1.only ho hgA, hz.2⟩, ?_, Only.ext hE ho hge, ho⟩
  · rcases hg with rfl | h
    · exact hge
    · exact Nat.le_trans hE.size h
  · by_cases hne : A = none
    · exact Or.inr (Or.inl hne)
    · refine Or.inr (Or.inr ?_)
      have := hgA hne
      have := hz.1.lt_size hne
      rcases hg with rfl | h <;> omega
theorem opd_old {w0 w : World} {B : Option Addr} {gz cz cb : Nat} {xs : List Nat} (h : Words w0 B xs) (e : Ext w0 w) (hl : xs.length ≤ cb) (hg : w0.heap.size ≤ gz) : Opd w gz cz B cb xs :=
  ⟨h.1, hl, fun hn => by
    obtain ⟨g, o, hA, ⟨cs, hk⟩, hc⟩ := h.2 hn
    exact ⟨g, o, hA, ⟨cs, hk.ext e⟩, fun j hj => e.cell' (hc j hj), Or.inl (by have := hk.lt; omega)⟩⟩
theorem pow_len {ws : List Nat} {a p e : Nat} (hN : Norm ws) (h : natOf ws = a ^ p) (hp : p ≤ e) (ha : 0 < a) (hb : a ^ e < B64 ^ 11) : 1 ≤ ws.length ∧ ws.length < 12 := by
  have h0 : 0 < a ^ p := Nat.pow_pos ha
  have h1 : a ^ p ≤ a ^ e := Nat.pow_le_pow_right ha hp
  rcases Nat.eq_zero_or_pos ws.length with k | k
  · rw [List.eq_nil_of_length_eq_zero k] at h; simp [natOf] at h; omega
  · refine ⟨k, ?_⟩
    rcases Nat.lt_or_ge ws.length 12 with j | j
    · exact j
    · have h2 := natOf_ge hN (ws.length - 1) (by omega)
      have h3 : B64 ^ 11 ≤ B64 ^ (ws.length - 1) := Nat.pow_le_pow_right B64_pos (by omega)
      omega

theorem Words.take {w : World} {A : Option Addr} {ws ds : List Nat} (h : Words w A ws) (hd : ds = ws.take ds.length) : Words w A ds := by
  refine ⟨fun x hx => h.1 x (by rw [hd] at hx; exact List.mem_of_mem_take hx), fun hn => ?_⟩
  obtain ⟨g, o, hA, hb, hc⟩ := h.2 (by rintro rfl; rw [List.take_nil] at hd; exact hn hd)
  refine ⟨g, o, hA, hb, fun j hj => ?_⟩
  obtain ⟨hj', e⟩ := take_getElem hd j hj
  rw [e]; exact hc j hj'
/-- A number in new room handed back. -/
def RetNF (N : Nat) (w : World) (e : Ending) (w' : World) : Prop :=
  ∃ A c g ws, e = .returned (.slice A ws.length c) ∧ NatV w' A c g ws ∧ Norm ws ∧ natOf ws = N ∧ Ext w w' ∧ w.heap.size ≤ g
theorem NatV.take {w : World} {A : Option Addr} {c g : Nat} {ws ds : List Nat} (h : NatV w A c g ws) (hd : ds = ws.take ds.length) : NatV w A c g ds := by
  have hl : ds.length ≤ ws.length := by
    have := congrArg List.length hd
    simp only [List.length_take] at this; omega
  rcases h with ⟨h1, h2, h3⟩ | ⟨h1, h2, h3, full, hb, hf, he⟩
  · subst h3; exact Or.inl ⟨h1, h2, List.eq_nil_of_length_eq_zero (by simpa using hl)⟩
  · refine Or.inr ⟨h1, h2, by omega, full, hb, hf, ?_⟩
    have e1 : ds = (full.take ws.length).take ds.length := by rw [← he]; exact hd
    rw [List.take_take, Nat.min_eq_left hl] at e1
    exact e1
theorem exp_start {e k r0 : Nat} (he : e = 2 ^ k + r0) (hr : r0 < 2 ^ k) (hk1 : 1 ≤ k) (hk2 : k ≤ 62) : IntKind.u64.wrap ((e : Int) * 2 ^ (63 - k + 1)) = ((r0 * 2 ^ (64 - k) : Nat) : Int) := by
  have e1 : 63 - k + 1 = 64 - k := by omega
  have e2 : 2 ^ k * 2 ^ (64 - k) = 18446744073709551616 := by rw [← Nat.pow_add, show k + (64 - k) = 64 by omega]
  have e3 : r0 * 2 ^ (64 - k) < 18446744073709551616 := by rw [← e2]; exact Nat.mul_lt_mul_of_pos_right hr (Nat.pow_pos (by omega))
  have e4 : e * 2 ^ (64 - k) = 18446744073709551616 + r0 * 2 ^ (64 - k) := by rw [he, Nat.add_mul, e2]
  have e5 : (e : Int) * 2 ^ (63 - k + 1) = ((e * 2 ^ (64 - k) : Nat) : Int) := by rw [e1]; simp
  rw [e5, e4]
  obtain ⟨t, ht⟩ : ∃ t, t = r0 * 2 ^ (64 - k) := ⟨_, rfl⟩
  rw [← ht] at e3 ⊢
  simp only [IntKind.wrap_u64]
  omega
theorem and_top (v : Nat) (h : v < 18446744073709551616) : (v &&& 9223372036854775808 ≠ 0) ↔ 9223372036854775808 ≤ v := by
  have h63 : (v &&& 9223372036854775808).testBit 63 = v.testBit 63 := by
    rw [Nat.testBit_and, show (9223372036854775808 : Nat) = 2 ^ 63 from rfl, Nat.testBit_two_pow_self, Bool.and_true]
  have hv : v.testBit 63 = decide (9223372036854775808 ≤ v) := by
    rw [Nat.testBit_eq_decide_div_mod_eq]
    by_cases hv : 9223372036854775808 ≤ v
    · have : v / 2 ^ 63 % 2 = 1 := by omega
      rw [this]; simp [hv]
    · have : v / 2 ^ 63 % 2 = 0 := by omega
      rw [this]; simp [hv]
  constructor
  · intro hne
    rcases Nat.lt_or_ge v 9223372036854775808 with hlt | hge
    · exfalso
      apply hne
      refine Nat.eq_of_testBit_eq fun i => ?_
      rw [Nat.testBit_and, show (9223372036854775808 : Nat) = 2 ^ 63 from rfl, Nat.testBit_two_pow, Nat.zero_testBit]
      by_cases hi : 63 = i
      · subst hi
        rw [hv]
        have : decide (9223372036854775808 ≤ v) = false := by simp; omega
        rw [this]; rfl
      · simp [hi]
    · exact hge
  · intro hge h0
    rw [h0, hv] at h63
    simp [hge] at h63
theorem top_bit (v : Nat) (h : v < 18446744073709551616) : (bits .and .u64 (v : Int) 9223372036854775808 != 0) = decide (9223372036854775808 ≤ v) := by
  have e := bits_and_u64_nat v 9223372036854775808 h (by omega)
  rw [show ((9223372036854775808 : Nat) : Int) = 9223372036854775808 from rfl] at e
  rw [e]
  have := and_top v h
  by_cases hv : 9223372036854775808 ≤ v
  · have h2 := this.2 hv
    rw [decide_eq_true hv]; simpa using h2
  · have h2 : v &&& 9223372036854775808 = 0 := by
      rcases Nat.eq_zero_or_pos (v &&& 9223372036854775808) with k | k
      · exact k
      · exact absurd (this.1 (by omega)) hv
    rw [h2, decide_eq_false hv]; rfl
theorem exp_bit {K r vv p e : Nat} (h1 : 1 ≤ K) (hK : K ≤ 62) (hv : vv = r * 2 ^ (64 - K)) (hr : r < 2 ^ K) (he : e = p * 2 ^ K + r) : vv < 18446744073709551616 ∧
    (¬ 9223372036854775808 ≤ vv → (vv : Int) * 2 = ((r * 2 ^ (64 - (K - 1)) : Nat) : Int) ∧ r < 2 ^ (K - 1) ∧ e = 2 * p * 2 ^ (K - 1) + r) ∧
    (9223372036854775808 ≤ vv → ∃ r', IntKind.u64.wrap ((vv : Int) * 2) = ((r' * 2 ^ (64 - (K - 1)) : Nat) : Int) ∧ r' < 2 ^ (K - 1) ∧ e = (2 * p + 1) * 2 ^ (K - 1) + r') := by
  obtain ⟨Q, hQ⟩ : ∃ Q, Q = 2 ^ (64 - K) := ⟨_, rfl⟩
  obtain ⟨T, hT⟩ : ∃ T, T = 2 ^ (K - 1) := ⟨_, rfl⟩
  have e1 : 2 ^ K = 2 * T := by rw [hT, Nat.mul_comm, ← Nat.pow_succ, show (K - 1).succ = K by omega]
  have e2 : T * Q = 9223372036854775808 := by rw [hT, hQ, ← Nat.pow_add, show K - 1 + (64 - K) = 63 by omega]
  have e3 : 2 ^ (64 - (K - 1)) = 2 * Q := by rw [hQ, Nat.mul_comm, ← Nat.pow_succ, show (64 - K).succ = 64 - (K - 1) by omega]
  have hQ0 : 0 < Q := by rw [hQ]; exact Nat.pow_pos (by omega)
  rw [← hQ] at hv
  rw [e1] at hr he
  rw [e3, ← hT]
  have hp : p * (2 * T) = 2 * p * T := by rw [Nat.mul_comm 2 p, Nat.mul_assoc]
  have hlt : r * Q < 2 * T * Q := Nat.mul_lt_mul_of_pos_right hr hQ0
  rw [Nat.mul_assoc, e2] at hlt
  have hvlt : vv < 18446744073709551616 := by omega
  refine ⟨hvlt, fun hn => ?_, fun hy => ?_⟩
  · have hrT : r < T := by
      rcases Nat.lt_or_ge r T with h | h
      · exact h
      · have := Nat.mul_le_mul_right Q h; omega
    refine ⟨?_, hrT, by omega⟩
    have : r * (2 * Q) = 2 * (r * Q) := Nat.mul_left_comm _ _ _
    rw [this, ← hv]
    omega
  · have hrT : T ≤ r := by
      rcases Nat.lt_or_ge r T with h | h
      · have := Nat.mul_lt_mul_of_pos_right h hQ0; omega
      · exact h
    obtain ⟨r', rfl⟩ : ∃ r', r = T + r' := ⟨r - T, by omega⟩
    refine ⟨r', ?_, by omega, ?_⟩
    · rw [Nat.add_mul, e2] at hv
      have : r' * (2 * Q) = 2 * (r' * Q) := Nat.mul_left_comm _ _ _
      rw [this]
      obtain ⟨t, ht⟩ : ∃ t, t = r' * Q := ⟨_, rfl⟩
      rw [← ht] at hv ⊢
      simp only [IntKind.wrap_u64]; omega
    · rw [he, Nat.add_mul, Nat.one_mul, hp]; omega
theorem NatV.cap_le {w : World} {A : Option Addr} {c g : Nat} {ws : List Nat} (h : NatV w A c g ws) : c ≤ 1000000 := by
  rcases h with ⟨_, rfl, _⟩ | ⟨_, h, _⟩ <;> omega

set_option maxRecDepth 100000 in
theorem stackFree (s : Nat) (u : FrameMode) (w : World) (hc : w.cell? ⟨s, 0, none⟩ = some (.pointer none)) :
    CallsD Tryz.prog 263 #[.pointer (some ⟨s, 0, none⟩)] u w fun e u' w' => u' = u ∧ (e = .returned (.tuple #[]) ∧ w' = w) := by
  go_enter_d Tryz.func263, Tryz.ntmps263
  go_wp2
  go_end0
  exact ⟨rfl, rfl⟩
set_option maxRecDepth 100000 in
theorem getStack_ (w : World) :
    Calls Tryz.prog 262 #[] w fun e w' => ∃ s, e = .returned (.pointer (some ⟨s, 0, none⟩)) ∧ Blk w' s 316 [.pointer none] ∧ Ext w w' := by
  have h := Lib.hid (Blk.new w 316 [.pointer none])
  go_enter Tryz.func262, Tryz.ntmps262
  go_wp2
  go_ret
  exact ⟨_, rfl, h.out, Ext.alloc' _ _⟩
end Go.Proofs.YtfafiahefjimdaaGreatDoor
