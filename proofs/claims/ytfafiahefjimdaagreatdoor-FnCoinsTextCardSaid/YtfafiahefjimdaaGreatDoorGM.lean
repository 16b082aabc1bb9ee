/-
  Contracts of bigall's addVW and subVW at any offset, in place or not; copy of words.
  Contracts of nat's set, add and sub at any receiver, for numbers of any lengths.
-/
import Derived.Test.YtfafiahefjimdaaGreatDoorGL
import Derived.Laws.CopyOwn
import Derived.Deep.RegionHeld3
import Derived.Test.YtfafiahefjimdaaGreatDoorGA
namespace Go.Proofs.YtfafiahefjimdaaGreatDoor
open Go Go.RowKit

theorem Only.setRow_ {g : Nat} {a w : World} (h : Only g a w) (cs : Array Value) : Only g a (w.setRow g cs) :=
  ⟨h.os, h.tape, h.output, by simpa [World.setRow] using h.size, fun i hi hne => (setRow_other w g i cs (by rintro rfl; exact hne rfl)).trans (h.block i hi hne)⟩
theorem over_map (full xs : List Nat) (off : Nat) : (((full.map wv).toArray.toList.take off ++ (xs.map wv ++ (full.map wv).toArray.toList.drop (off + (xs.map wv).length)))) = (over full off xs).map wv := by
  simp [over]
theorem WB.setRow_ {w : World} {g : Nat} {full : List Nat} (h : WB w g full) (off : Nat) (xs : List Nat) (hb : ∀ x ∈ xs, x < B64) :
    WB (w.setRow g ((full.map wv).toArray.toList.take off ++ (xs.map wv ++ (full.map wv).toArray.toList.drop (off + (xs.map wv).length))).toArray) g (over full off xs) := by
  rw [over_map]
  exact ⟨setRow_heap w g _ _ _ _ h.1, over_lt h.2 hb⟩

/-- copy of words into a block of words, as one step of a region that draws its order. -/
theorem step_copy_over {P : Program} {ops : Array Oper} {o : Oper} {a : Act} {w : World} {K : Act → World → Prop} {Q : Exit → Act → World → Prop} {E : Prop} (hgd : o.guard = none) (d s : Operand) (dT sT : TypeId)
    (ho : o.op = .call { callee := .builtin .copy, args := #[d, s], argTypes := #[dT, sT] }) (elem : TypeId) (hu : P.underlying dT = some (.slice elem)) (hsz : (P.info? elem).map (·.size) = some 1)
    (dp sp : Option Addr) (dLen dCap sLen sCap : Nat) (hd : a.eval d = .slice dp dLen dCap) (hs : a.eval s = .slice sp sLen sCap)
    (g off : Nat) (full : List Nat) (hg : WB w g full) (xs : List Nat) (hn1 : xs.length = dLen) (hn2 : xs.length = sLen)
    (hpos : 0 < xs.length → dp = some ⟨g, off, none⟩ ∧ ∃ b' o', sp = some ⟨b', o', none⟩ ∧ ∀ j (h : j < xs.length), w.cell? ⟨b', o' + j, none⟩ = some (.int .u64 (xs[j] : Int)))
    (hfit : off + xs.length ≤ full.length) (hb : ∀ x ∈ xs, x < B64)
    (h : ∀ w', Hid (WB w' g (over full off xs) ∧ Only g w w') → K (a.put o.dst (goInt xs.length)) w') :
    if Region.wanted o (yielded ops a.tmps) = true then Oper.wp P o a w K Q else E := by
  have hw : Region.wanted o (yielded ops a.tmps) = true := by simp [Region.wanted, hgd]
  rw [if_pos hw]
  have hmin : (xs.map wv).length = Nat.min sLen dLen := by rw [List.length_map, ← hn1, ← hn2]; exact (Nat.min_self _).symm
  by_cases h0 : xs.length = 0
  · have hx : xs = [] := List.eq_nil_of_length_eq_zero h0
    have hrun := run_copy_none (P := P) w dT sT o.type elem dp sp dLen dCap sLen sCap hu hsz (by rw [← hmin, List.length_map, h0])
    unfold Oper.wp
    simp [execOp, ho, resolve, invoke, builtin, hd, hs, hrun, Result.andThen]
    have hk := h w ⟨by rw [hx, over_nil]; exact hg, Only.refl _ _⟩
    rw [h0] at hk
    exact hk
  · obtain ⟨rfl, b', o', rfl, hsrc⟩ := hpos (by omega)
    have hrun := run_copy_row (P := P) w dT sT o.type elem g off dLen dCap ⟨b', o', none⟩ sLen sCap (full.map wv).toArray 221 (xs.map wv) hu hsz hg.1 hmin (by
      intro j v hv
      rw [List.getElem?_map] at hv
      obtain ⟨x, hx, rfl⟩ := Option.map_eq_some_iff.1 hv
      obtain ⟨hj, rfl⟩ := List.getElem?_eq_some_iff.1 hx
      have := hsrc j hj
      rcases Nat.eq_zero_or_pos j with rfl | hp
      · simpa [Addr.add, wv] using this
      · simpa [Addr.add, wv, show j ≠ 0 by omega] using this) (by simpa using hfit) (by intro v hv; obtain ⟨x, _, rfl⟩ := List.mem_map.1 hv; rfl)
    unfold Oper.wp
    have hk := h _ ⟨hg.setRow_ off xs hb, (Only.refl g w).setRow_ _⟩
    have hk' : K (a.put o.dst (goInt xs.length)) (w.setRow g (List.take off (List.map wv full) ++ (List.map wv xs ++ List.drop (off + xs.length) (List.map wv full))).toArray) := by simpa using hk
    simp [execOp, ho, resolve, invoke, builtin, hd, hs, hrun, Result.andThen]
    exact hk'

/-- The same where the order is fixed. -/
theorem wpList_copy_over {P : Program} {w : World} {ops : Array Oper} {rest : List Oper} {o : Oper} {a : Act} {Q : Exit → Act → World → Prop} (hgd : o.guard = none) (d s : Operand) (dT sT : TypeId)
    (ho : o.op = .call { callee := .builtin .copy, args := #[d, s], argTypes := #[dT, sT] }) (elem : TypeId) (hu : P.underlying dT = some (.slice elem)) (hsz : (P.info? elem).map (·.size) = some 1)
    (dp sp : Option Addr) (dLen dCap sLen sCap : Nat) (hd : a.eval d = .slice dp dLen dCap) (hs : a.eval s = .slice sp sLen sCap)
    (g off : Nat) (full : List Nat) (hg : WB w g full) (xs : List Nat) (hn1 : xs.length = dLen) (hn2 : xs.length = sLen)
    (hpos : 0 < xs.length → dp = some ⟨g, off, none⟩ ∧ ∃ b' o', sp = some ⟨b', o', none⟩ ∧ ∀ j (h : j < xs.length), w.cell? ⟨b', o' + j, none⟩ = some (.int .u64 (xs[j] : Int)))
    (hfit : off + xs.length ≤ full.length) (hb : ∀ x ∈ xs, x < B64)
    (h : ∀ w', Hid (WB w' g (over full off xs) ∧ Only g w w') → wpList P ops Q rest (a.put o.dst (goInt xs.length)) w') : wpList P ops Q (o :: rest) a w := by
  have hmin : (xs.map wv).length = Nat.min sLen dLen := by rw [List.length_map, ← hn1, ← hn2]; exact (Nat.min_self _).symm
  by_cases h0 : xs.length = 0
  · have hx : xs = [] := List.eq_nil_of_length_eq_zero h0
    refine wpList_copy_nothing hgd d s dT sT ho elem hu hsz dp sp dLen dCap sLen sCap hd hs (by rw [← hmin, List.length_map, h0]) ?_
    have hk := h w ⟨by rw [hx, over_nil]; exact hg, Only.refl _ _⟩
    rw [h0] at hk
    exact hk
  · obtain ⟨rfl, b', o', rfl, hsrc⟩ := hpos (by omega)
    refine wpList_copy_own hgd d s dT sT ho elem hu hsz g off dLen dCap ⟨b', o', none⟩ sLen sCap hd hs (full.map wv).toArray 221 hg.1 (xs.map wv) hmin (by
      intro j v hv
      rw [List.getElem?_map] at hv
      obtain ⟨x, hx, rfl⟩ := Option.map_eq_some_iff.1 hv
      obtain ⟨hj, rfl⟩ := List.getElem?_eq_some_iff.1 hx
      have := hsrc j hj
      rcases Nat.eq_zero_or_pos j with rfl | hp
      · simpa [Addr.add, wv] using this
      · simpa [Addr.add, wv, show j ≠ 0 by omega] using this) (by simpa using hfit) (by intro v hv; obtain ⟨x, _, rfl⟩ := List.mem_map.1 hv; rfl) ?_
    have hk := h _ ⟨hg.setRow_ off xs hb, (Only.refl g w).setRow_ _⟩
    simpa using hk

theorem word_neq (W : World) {a b : Addr} {ca cb : List Value} (ha : Blk W a.block 221 ca) (hb : Blk W b.block 221 cb) (hne : a ≠ b) :
    (binOp .neq 290 (.pointer (some a)) (.pointer (some b))).run Tryz.prog W = .ok (.bool true) W := by
  obtain ⟨j, hj, hs⟩ : ∃ j, Tryz.prog.info? 221 = some j ∧ j.size ≠ 0 := by
    have h : (Tryz.prog.info? 221).map (·.size) = some 1 := by kernel_rfl
    obtain ⟨j, h1, h2⟩ := Option.map_eq_some_iff.1 h
    exact ⟨j, h1, by rw [h2]; decide⟩
  have h : ∀ d : Nat, (Op.equalIn (d + 1) 290 (.pointer (some a)) (.pointer (some b))).run Tryz.prog W = .ok false W := fun d => by
    simp [Op.equalIn, run_underlying Tryz.underlying290, sizeOf, typeInfo, hj, hs, run_sameAddr_other W (a := a) (b := b) hne ha hb]
  simp only [binOp]
  simp [Op.equal, Op.maxDepth, h 9999]
theorem word_neq_same (W : World) (a : Addr) : (binOp .neq 290 (.pointer (some a)) (.pointer (some a))).run Tryz.prog W = .ok (.bool false) W := by
  have h : ∀ d : Nat, (Op.equalIn (d + 1) 290 (.pointer (some a)) (.pointer (some a))).run Tryz.prog W = .ok true W := fun d => by
    simp [Op.equalIn, run_underlying Tryz.underlying290, run_sameAddr_same]
  simp only [binOp]
  simp [Op.equal, Op.maxDepth, h 9999]

/-- What lies there already, written over itself. -/
theorem over_same {ws xs ds : List Nat} {o : Nat} (h : ∀ j (hj : j < xs.length), ws[o + j]? = some xs[j]) (hd : ds.length ≤ xs.length) (ho : o + xs.length ≤ ws.length) : over ws o ds = over ws o (ds ++ xs.drop ds.length) := by
  refine List.ext_getElem? fun j => ?_
  have hl : (ds ++ xs.drop ds.length).length = xs.length := by simp; omega
  rw [over_get (by omega), over_get (by rw [hl]; omega), hl]
  by_cases h1 : j < o
  · rw [if_pos h1, if_pos h1]
  · rw [if_neg h1, if_neg h1]
    by_cases h2 : j < o + ds.length
    · rw [if_pos h2, if_pos (by omega), List.getElem?_append_left (by omega)]
    · rw [if_neg h2]
      by_cases h3 : j < o + xs.length
      · rw [if_pos h3, List.getElem?_append_right (by omega), List.getElem?_drop, show ds.length + (j - o - ds.length) = j - o by omega, List.getElem?_eq_getElem (l := xs) (by omega)]
        have := h (j - o) (by omega)
        rwa [show o + (j - o) = j by omega] at this
      · rw [if_neg h3]
theorem addW_stop {D P x k y R : Nat} (h : D + B64 ^ k = P + y) : D + B64 ^ k * (x + 1 + B64 * R) = P + B64 ^ k * (x + B64 * R) + y := by
  rw [Nat.mul_add, Nat.mul_add, Nat.mul_add, Nat.mul_one]; omega
theorem subW_stop {D P x k y R : Nat} (h : D + y = P + B64 ^ k) (hx : 1 ≤ x) : D + B64 ^ k * (x - 1 + B64 * R) + y = P + B64 ^ k * (x + B64 * R) := by
  obtain ⟨z, rfl⟩ : ∃ z, x = z + 1 := ⟨x - 1, by omega⟩
  rw [Nat.add_sub_cancel, Nat.mul_add, Nat.mul_add, Nat.mul_add, Nat.mul_one]; omega
theorem natOf_at {xs ds : List Nat} {k d : Nat} (hd : ds.length = k) : natOf (ds ++ d :: xs.drop (k + 1)) = natOf ds + B64 ^ k * (d + B64 * natOf (xs.drop (k + 1))) := by
  rw [natOf_append, hd, natOf]
theorem lt_at {xs ds : List Nat} {k d : Nat} (hx : ∀ x ∈ xs, x < B64) (hds : ∀ x ∈ ds, x < B64) (hd : d < B64) : ∀ x ∈ ds ++ d :: xs.drop (k + 1), x < B64 := by
  intro x h
  rcases List.mem_append.1 h with h | h
  · exact hds x h
  · rcases List.mem_cons.1 h with rfl | h
    · exact hd
    · exact hx x (List.mem_of_mem_drop h)
theorem addW_more {D P k y x : Nat} (h : D + B64 ^ k = P + y) (hx : x = B64 - 1) : D + B64 ^ k * 0 + B64 ^ (k + 1) = P + B64 ^ k * x + y := by
  have e : B64 ^ (k + 1) = B64 ^ k * x + B64 ^ k := by
    rw [hx, Nat.pow_succ, ← Nat.mul_succ, Nat.succ_eq_add_one, Nat.sub_add_cancel B64_pos]
  omega
theorem subW_more {D P k y x : Nat} (h : D + y = P + B64 ^ k) (hx : x = 0) : D + B64 ^ k * (B64 - 1) + y = P + B64 ^ k * x + B64 ^ (k + 1) := by
  have e : B64 ^ (k + 1) = B64 ^ k * (B64 - 1) + B64 ^ k := by
    rw [Nat.pow_succ, ← Nat.mul_succ, Nat.succ_eq_add_one, Nat.sub_add_cancel B64_pos]
  subst hx; omega
/-- Where a stop is reached: the rest of the words is there, or has been copied. -/
def RelA (D k P y : Nat) : Prop := D + B64 ^ k = P + y
def RelS (D k P y : Nat) : Prop := D + y = P + B64 ^ k
def EndA (n X y D c : Nat) : Prop := D + c * B64 ^ n = X + y ∧ c ≤ 1
def EndS (n X y D c : Nat) : Prop := D + y = X + c * B64 ^ n ∧ c ≤ 1

theorem addW_first (x0 y n : Nat) (xt : List Nat) (hx : x0 < B64) (hy : y ≤ 1) : ((x0 + y + 0) / B64 = 0 → EndA n (natOf (x0 :: xt)) y (natOf ((x0 + y + 0) % B64 :: xt)) 0) ∧ ((x0 + y + 0) / B64 = 1 → RelA (natOf [(x0 + y + 0) % B64]) 1 (natOf ((x0 :: xt).take 1)) y) ∧ (x0 + y + 0) / B64 ≤ 1 := by
  have e : B64 * ((x0 + y + 0) / B64) + (x0 + y + 0) % B64 = x0 + y + 0 := Nat.div_add_mod _ _
  obtain ⟨d, hd⟩ : ∃ d, d = (x0 + y + 0) % B64 := ⟨_, rfl⟩
  obtain ⟨c, hc⟩ : ∃ c, c = (x0 + y + 0) / B64 := ⟨_, rfl⟩
  have hB : 1 < B64 := by unfold B64; omega
  have hc1 : c ≤ 1 := by rw [hc]; exact carry_le x0 y 0 hx (by omega) (by omega)
  rw [← hd, ← hc] at e ⊢
  refine ⟨fun h => ⟨?_, by omega⟩, fun h => ?_, hc1⟩
  · subst h
    simp only [natOf, Nat.mul_zero, Nat.zero_add, Nat.zero_mul, Nat.add_zero] at e ⊢
    omega
  · subst h
    unfold RelA
    simp only [natOf, Nat.mul_one, Nat.mul_zero, Nat.add_zero, List.take_succ_cons, List.take_zero, Nat.pow_one] at e ⊢
    omega
theorem subW_first (x0 y n : Nat) (xt : List Nat) (hx : x0 < B64) (hy : y ≤ 1) : ((if x0 < y + 0 then 1 else 0) = 0 → EndS n (natOf (x0 :: xt)) y (natOf ((x0 + B64 - y - 0) % B64 :: xt)) 0) ∧ ((if x0 < y + 0 then 1 else 0) = 1 → RelS (natOf [(x0 + B64 - y - 0) % B64]) 1 (natOf ((x0 :: xt).take 1)) y) ∧ (if x0 < y + 0 then 1 else 0) ≤ 1 := by
  have e : (x0 + B64 - y - 0) % B64 + y + 0 = x0 + (if x0 < y + 0 then 1 else 0) * B64 := by unfold B64 at *; split <;> omega
  obtain ⟨d, hd⟩ : ∃ d, d = (x0 + B64 - y - 0) % B64 := ⟨_, rfl⟩
  have hc1 : (if x0 < y + 0 then 1 else 0) ≤ 1 := by split <;> omega
  obtain ⟨c, hc⟩ : ∃ c, c = (if x0 < y + 0 then 1 else 0) := ⟨_, rfl⟩
  rw [← hc] at hc1
  rw [← hd, ← hc] at e ⊢
  refine ⟨fun h => ⟨?_, by omega⟩, fun h => ?_, hc1⟩
  · subst h
    simp only [natOf, Nat.zero_mul, Nat.add_zero] at e ⊢
    omega
  · subst h
    unfold RelS
    simp only [natOf, Nat.one_mul, Nat.mul_zero, Nat.add_zero, List.take_succ_cons, List.take_zero, Nat.pow_one] at e ⊢
    omega

set_option maxRecDepth 100000 in
set_option maxHeartbeats 1000000 in
theorem vAddVW_same (g o cz bx ox cx y : Nat) (ws xs : List Nat) (n : Nat) (w : World) (hn : n ≤ 1000000) (h1 : 1 ≤ n) (hcz : n ≤ cz) (hcx : n ≤ cx) (hb : WB w g ws) (ho : o + n ≤ ws.length) (hxb : ∀ x ∈ xs, x < B64) (hxc : ∀ j (h : j < xs.length), w.cell? ⟨bx, ox + j, none⟩ = some (.int .u64 (xs[j] : Int))) (hs : g = bx ∧ o = ox) (hxl : xs.length = n) (hy : y ≤ 1) :
    Calls Tryz.prog 220 #[.slice (some ⟨g, o, none⟩) n cz, .slice (some ⟨bx, ox, none⟩) n cx, .int .u64 y] w (RetV g ws o n (fun ds c => EndA n (natOf xs) y (natOf ds) c) w) := by
  obtain ⟨x0, xt, rfl⟩ : ∃ x0 xt, xs = x0 :: xt := by
    cases xs with
    | nil => simp at hxl; omega
    | cons a b => exact ⟨a, b, rfl⟩
  have cx0 : w.cell? ⟨bx, ox, none⟩ = some (.int .u64 (x0 : Int)) := hxc 0 (by simp)
  have hx0 : x0 < B64 := hxb x0 (by simp)
  obtain ⟨rfl, rfl⟩ := hs
  have HSM := Lib.hid (show ∀ j (hj : j < (x0 :: xt).length), ws[o + j]? = some (x0 :: xt)[j] from fun j hj => by
    have h1 := hxc j hj
    rw [hb.1.cell, List.getElem?_map] at h1
    obtain ⟨z, hz, hw⟩ := Option.map_eq_some_iff.1 h1
    rw [hz]
    have : ((z : Nat) : Int) = (((x0 :: xt)[j] : Nat) : Int) := by unfold wv at hw; injection hw
    congr 1; omega)
  have HOP := Lib.hid (bitsAdd x0 y 0 (by omega) w)
  obtain ⟨d0, hd0⟩ : ∃ d0, d0 = (x0 + y + 0) % B64 := ⟨_, rfl⟩
  obtain ⟨c0, hc0⟩ : ∃ c0 : Nat, c0 = (x0 + y + 0) / B64 := ⟨_, rfl⟩
  rw [← hd0, ← hc0] at HOP
  have hd0b : d0 < B64 := by rw [hd0]; exact Nat.mod_lt _ B64_pos
  have hfirst := addW_first x0 y n xt hx0 hy
  rw [← hd0, ← hc0] at hfirst
  have hc01 := hfirst.2.2
  obtain ⟨old0, hold0⟩ : ∃ old, w.cell? ⟨g, o, none⟩ = some old := ⟨_, hb.cell o _ (List.getElem?_eq_getElem (by omega))⟩
  have hfz0 := hb.frozen o
  have HW0 := Lib.hid (show WB (w.setCell ⟨g, o, none⟩ (.int .u64 (d0 : Int))) g (over ws o [d0]) by
    have := hb.set_ o d0 hd0b
    have e := over_snoc (ws := ws) (o := o) (ds := []) d0 (by simp; omega)
    rw [over_nil] at e
    simp only [List.length_nil, Nat.add_zero, List.nil_append] at e
    rwa [e] at this)
  have HO0 := Lib.hid ((Only.refl g w).set_ o (.int .u64 (d0 : Int)))
  have HQ : Hid (∀ W, Only g w W → (∃ cs, WB W g cs) → (binOp .neq 290 (.pointer (some ⟨g, o, none⟩)) (.pointer (some ⟨g, o, none⟩))).run Tryz.prog W = .ok (.bool false) W) := fun W _ _ => word_neq_same W _
  have q0 := fun k => HQ.out ((w.setCell ⟨g, o, none⟩ (.int .u64 (d0 : Int))).drewN k) (HO0.out.drewN k) ⟨_, HW0.out.drewN k⟩
  have q1 := HQ.out _ HO0.out ⟨_, HW0.out⟩
  have HXC := Lib.hid hxc; have HXB := Lib.hid hxb; have HB := Lib.hid hb; have HXL := Lib.hid hxl; have HF := Lib.hid hfirst
  have HD0 := Lib.hid hd0b
  clear hxc hxb hb hxl hfirst hd0 hc0 hd0b hx0
  rcases (show c0 = 0 ∨ c0 = 1 by omega) with rfl | rfl
  · -- no carry: the rest is as it was
    clear hc01
    go_enter Tryz.func220, Tryz.ntmps220
    go_wp2_with (go_at_call 273; refine HOP.out.mono ?_; rintro e w' ⟨rfl, hw'⟩; obtain rfl := hw'.symm)
    go_quiet (fail)
    go_wp2
    go_ret
    refine ⟨d0 :: xt, 0, rfl, B64_pos, by have := HXL.out; simpa using this, ?_, HF.out.1 (by first | rfl | trivial), ?_, HO0.out.drewN _⟩
    · intro x hx
      rcases List.mem_cons.1 hx with rfl | hx
      · exact HD0.out
      · exact HXB.out x (List.mem_cons_of_mem _ hx)
    · have := over_same (ws := ws) (o := o) (xs := x0 :: xt) (ds := [d0]) HSM.out (by simp) (by rw [HXL.out]; exact ho)
      have h2 := HW0.out.drewN nq
      rw [this] at h2
      exact h2
  · clear hc01 q0 q1
    go_enter Tryz.func220, Tryz.ntmps220
    go_wp2_with (go_at_call 273; refine HOP.out.mono ?_; rintro e w' ⟨rfl, hw'⟩; obtain rfl := hw'.symm)
    go_loopw [9] (fun i wr => ∃ (k : Nat) (ds : List Nat), 1 ≤ k ∧ k ≤ n ∧ i = .int .i64 k ∧ ds.length = k ∧ (∀ d ∈ ds, d < B64) ∧ RelA (natOf ds) k (natOf ((x0 :: xt).take k)) y ∧ WB wr g (over ws o ds) ∧ Only g w wr) (fun i _ => n - (intOf i).toNat)
    case atStart => exact ⟨1, [d0], Nat.le_refl _, h1, rfl, rfl, by simpa using HD0.out, HF.out.2.1 (by first | rfl | trivial), HW0.out, HO0.out⟩
    case round =>
      obtain ⟨k, ds, hk1, hk, rfl, hdl, hdb, hsum, hblk, honly⟩ := hrel
      have HD := Lib.hid hdl; have HDB := Lib.hid hdb; have HS := Lib.hid hsum; have HBK := Lib.hid hblk; have HO := Lib.hid honly
      clear hdl hdb hsum hblk honly
      by_cases hlt : k < n
      · have hkx : k < (x0 :: xt).length := by rw [HXL.out]; exact hlt
        obtain ⟨xk, hxk⟩ : ∃ xk, xk = (x0 :: xt)[k] := ⟨_, rfl⟩
        have cxk : wr.cell? ⟨g, o + k, none⟩ = some (.int .u64 (xk : Int)) := by rw [hxk, HBK.out.1.cell, List.getElem?_map, over_get (by rw [HD.out]; omega), if_neg (by omega), if_neg (by rw [HD.out]; omega), HSM.out k hkx]; rfl
        have HXK := Lib.hid hxk; have hxkb : xk < B64 := by rw [hxk]; exact lt_of_get HXB.out k hkx
        clear hxk
        obtain ⟨old, hold⟩ : ∃ old, wr.cell? ⟨g, o + k, none⟩ = some old := ⟨_, HBK.out.cell (o + k) _ (List.getElem?_eq_getElem (by rw [over_length (by rw [HD.out]; omega)]; omega))⟩
        have hfz : wr.frozen? ⟨g, o + k, none⟩ = false := HBK.out.frozen (o + k)
        by_cases hmx : xk = B64 - 1
        · have hne : (((xk : Nat) : Int) != 18446744073709551615) = false := by subst hmx; rfl
          go_wp2
          go_roundw
          case rel =>
            refine ⟨k + 1, ds ++ [0], by omega, by omega, by go_num, by simp [HD.out], lt_snoc HDB.out (by unfold B64; omega), ?_, ?_, HO.out.set_ _ _⟩
            · rw [natOf_snoc, HD.out, natOf_take_succ _ _ hkx, ← HXK.out]
              exact addW_more HS.out hmx
            · have := HBK.out.set_ (o + k) (0) (by unfold B64; omega)
              rw [← HD.out] at this ⊢
              rwa [over_snoc _ (by rw [HD.out]; omega)] at this
          case measure => simp [intOf]; omega
        · have hne : (((xk : Nat) : Int) != 18446744073709551615) = true := by simp; unfold B64 at *; omega
          have HX' := Lib.hid (show xk + 1 < B64 by unfold B64 at *; omega)
          obtain ⟨x', hx'⟩ : ∃ x', x' = xk + 1 := ⟨_, rfl⟩
          have hnw : IntKind.u64.wrap ((xk : Int) + 1) = ((x' : Nat) : Int) := by rw [hx']; simp only [IntKind.wrap_u64]; unfold B64 at *; omega
          have HWK := Lib.hid (show WB (wr.setCell ⟨g, o + k, none⟩ (.int .u64 (x' : Int))) g (over ws o (ds ++ [x'])) by
            have := HBK.out.set_ (o + k) x' (by rw [hx']; exact HX'.out)
            rw [← HD.out] at this ⊢
            rwa [over_snoc _ (by rw [HD.out]; omega)] at this)
          have HOK := Lib.hid (HO.out.set_ (o + k) (.int .u64 (x' : Int)))
          have q2 := fun j => HQ.out ((wr.setCell ⟨g, o + k, none⟩ (.int .u64 (x' : Int))).drewN j) (HOK.out.drewN j) ⟨_, HWK.out.drewN j⟩
          have q3 := HQ.out _ HOK.out ⟨_, HWK.out⟩
          have HFIN := Lib.hid (show EndA n (natOf (x0 :: xt)) y (natOf (ds ++ x' :: (x0 :: xt).drop (k + 1))) 0 by
            refine ⟨?_, by omega⟩
            rw [natOf_at HD.out, Nat.zero_mul, Nat.add_zero, natOf_split (x0 :: xt) k hkx, ← HXK.out, hx']
            exact addW_stop HS.out)
          have HXX := Lib.hid hx'
          clear hx'
          go_wp2
          go_quiet (fail)
          go_wp2
          go_ret
          refine ⟨ds ++ x' :: (x0 :: xt).drop (k + 1), 0, rfl, B64_pos, ?_, lt_at HXB.out HDB.out (by rw [HXX.out]; exact HX'.out), HFIN.out, ?_, HOK.out.drewN _⟩
          · have := HD.out; have h2 := HXL.out; simp at h2 ⊢; omega
          · have := over_same (ws := ws) (o := o) (xs := x0 :: xt) (ds := ds ++ [x']) HSM.out (by simp [HD.out]; have := HXL.out; simp at this; omega) (by rw [HXL.out]; exact ho)
            rw [List.append_assoc, List.length_append, HD.out] at this
            have h2 := HWK.out.drewN nq
            rw [this] at h2
            exact h2
      · obtain rfl : k = n := by omega
        go_wp2
        go_ret
        exact ⟨ds, 1, rfl, by unfold B64; omega, HD.out, HDB.out, ⟨by have h := HS.out; rw [take_all HXL.out] at h; unfold RelA at h; omega, by omega⟩, HBK.out, HO.out⟩

set_option maxRecDepth 100000 in
set_option maxHeartbeats 1000000 in
theorem vAddVW_other (g o cz bx ox cx y : Nat) (ws xs : List Nat) (n : Nat) (w : World) (hn : n ≤ 1000000) (h1 : 1 ≤ n) (hcz : n ≤ cz) (hcx : n ≤ cx) (hb : WB w g ws) (ho : o + n ≤ ws.length) (hxb : ∀ x ∈ xs, x < B64) (hxc : ∀ j (h : j < xs.length), w.cell? ⟨bx, ox + j, none⟩ = some (.int .u64 (xs[j] : Int))) (hne0 : bx ≠ g) (hbk : ∃ cs, Blk w bx 221 cs) (hxl : xs.length = n) (hy : y ≤ 1) :
    Calls Tryz.prog 220 #[.slice (some ⟨g, o, none⟩) n cz, .slice (some ⟨bx, ox, none⟩) n cx, .int .u64 y] w (RetV g ws o n (fun ds c => EndA n (natOf xs) y (natOf ds) c) w) := by
  obtain ⟨x0, xt, rfl⟩ : ∃ x0 xt, xs = x0 :: xt := by
    cases xs with
    | nil => simp at hxl; omega
    | cons a b => exact ⟨a, b, rfl⟩
  have cx0 : w.cell? ⟨bx, ox, none⟩ = some (.int .u64 (x0 : Int)) := hxc 0 (by simp)
  have hx0 : x0 < B64 := hxb x0 (by simp)
  have hne := hne0
  have HOP := Lib.hid (bitsAdd x0 y 0 (by omega) w)
  obtain ⟨d0, hd0⟩ : ∃ d0, d0 = (x0 + y + 0) % B64 := ⟨_, rfl⟩
  obtain ⟨c0, hc0⟩ : ∃ c0 : Nat, c0 = (x0 + y + 0) / B64 := ⟨_, rfl⟩
  rw [← hd0, ← hc0] at HOP
  have hd0b : d0 < B64 := by rw [hd0]; exact Nat.mod_lt _ B64_pos
  have hfirst := addW_first x0 y n xt hx0 hy
  rw [← hd0, ← hc0] at hfirst
  have hc01 := hfirst.2.2
  obtain ⟨old0, hold0⟩ : ∃ old, w.cell? ⟨g, o, none⟩ = some old := ⟨_, hb.cell o _ (List.getElem?_eq_getElem (by omega))⟩
  have hfz0 := hb.frozen o
  have HW0 := Lib.hid (show WB (w.setCell ⟨g, o, none⟩ (.int .u64 (d0 : Int))) g (over ws o [d0]) by
    have := hb.set_ o d0 hd0b
    have e := over_snoc (ws := ws) (o := o) (ds := []) d0 (by simp; omega)
    rw [over_nil] at e
    simp only [List.length_nil, Nat.add_zero, List.nil_append] at e
    rwa [e] at this)
  have HO0 := Lib.hid ((Only.refl g w).set_ o (.int .u64 (d0 : Int)))
  have HQ : Hid (∀ W, Only g w W → (∃ cs, WB W g cs) → (binOp .neq 290 (.pointer (some ⟨g, o, none⟩)) (.pointer (some ⟨bx, ox, none⟩))).run Tryz.prog W = .ok (.bool true) W) := fun W ho hw => by
    obtain ⟨cs, hcs⟩ := hw
    obtain ⟨cb, hcb⟩ := hbk
    exact word_neq W (a := ⟨g, o, none⟩) (b := ⟨bx, ox, none⟩) hcs.1 (ho.block' hcb hne0) (by intro e; injection e with e; exact hne0 e.symm)
  have q0 := fun k => HQ.out ((w.setCell ⟨g, o, none⟩ (.int .u64 (d0 : Int))).drewN k) (HO0.out.drewN k) ⟨_, HW0.out.drewN k⟩
  have q1 := HQ.out _ HO0.out ⟨_, HW0.out⟩
  have HXC := Lib.hid hxc; have HXB := Lib.hid hxb; have HB := Lib.hid hb; have HXL := Lib.hid hxl; have HF := Lib.hid hfirst
  have HD0 := Lib.hid hd0b
  clear hxc hxb hb hxl hfirst hd0 hc0 hd0b hx0
  rcases (show c0 = 0 ∨ c0 = 1 by omega) with rfl | rfl
  · -- no carry: the rest is as it was
    clear hc01
    go_enter Tryz.func220, Tryz.ntmps220
    go_wp2_with (go_at_call 273; refine HOP.out.mono ?_; rintro e w' ⟨rfl, hw'⟩; obtain rfl := hw'.symm)
    go_quiet (fail)
    go_wp2
    have i1 : (1 : Int) ≤ (n : Int) := by omega
    have HC0 := Lib.hid (show ∀ j (h : j < xt.length), (w.setCell ⟨g, o, none⟩ (.int .u64 (d0 : Int))).cell? ⟨bx, ox + 1 + j, none⟩ = some (.int .u64 (xt[j] : Int)) by
      intro j h
      have := HO0.out.cell (HXC.out (j + 1) (by simp; omega)) hne
      rwa [show ox + (j + 1) = ox + 1 + j by omega] at this)
    have HXT := Lib.hid (show xt.length = n - 1 by have := HXL.out; simp at this; omega)
    by_cases hz1 : cz = 1 <;> by_cases hx1 : cx = 1
    all_goals
      go_region_held3 (fun _ => True) (first | exact trivial) (first | (refine step_copy_over rfl (.tmp 40) (.tmp 42) 170 170 rfl 221 Tryz.underlying170 (by kernel_rfl) _ _ _ _ _ _ rfl rfl g (o + 1) (over ws o [d0]) (by exact HW0.out) xt (by first | exact HXT.out | (have := HXT.out; omega)) (by first | exact HXT.out | (have := HXT.out; omega)) (by first | exact fun hp => ⟨rfl, bx, ox + 1, rfl, HC0.out⟩ | exact fun hp => absurd hp (by have := HXT.out; omega)) (by rw [over_length (by simp; omega), HXT.out]; omega) (fun x hx => HXB.out x (List.mem_cons_of_mem _ hx)) ?_; intro w2 HR))
      go_wp2
      go_ret
      refine ⟨d0 :: xt, 0, rfl, B64_pos, by have := HXL.out; simpa using this, ?_, HF.out.1 (by first | rfl | trivial), ?_, (by have := HR.out.2; exact HO0.out.trans' ⟨this.os, this.tape, this.output, this.size, this.block⟩)⟩
      · intro x hx
        rcases List.mem_cons.1 hx with rfl | hx
        · exact HD0.out
        · exact HXB.out x (List.mem_cons_of_mem _ hx)
      · have := HR.out.1
        rwa [show o + 1 = o + [d0].length from rfl, over_join (by simp; have := HXT.out; omega)] at this
  · clear hc01 q0 q1
    go_enter Tryz.func220, Tryz.ntmps220
    go_wp2_with (go_at_call 273; refine HOP.out.mono ?_; rintro e w' ⟨rfl, hw'⟩; obtain rfl := hw'.symm)
    go_loopw [9] (fun i wr => ∃ (k : Nat) (ds : List Nat), 1 ≤ k ∧ k ≤ n ∧ i = .int .i64 k ∧ ds.length = k ∧ (∀ d ∈ ds, d < B64) ∧ RelA (natOf ds) k (natOf ((x0 :: xt).take k)) y ∧ WB wr g (over ws o ds) ∧ Only g w wr) (fun i _ => n - (intOf i).toNat)
    case atStart => exact ⟨1, [d0], Nat.le_refl _, h1, rfl, rfl, by simpa using HD0.out, HF.out.2.1 (by first | rfl | trivial), HW0.out, HO0.out⟩
    case round =>
      obtain ⟨k, ds, hk1, hk, rfl, hdl, hdb, hsum, hblk, honly⟩ := hrel
      have HD := Lib.hid hdl; have HDB := Lib.hid hdb; have HS := Lib.hid hsum; have HBK := Lib.hid hblk; have HO := Lib.hid honly
      clear hdl hdb hsum hblk honly
      by_cases hlt : k < n
      · have hkx : k < (x0 :: xt).length := by rw [HXL.out]; exact hlt
        obtain ⟨xk, hxk⟩ : ∃ xk, xk = (x0 :: xt)[k] := ⟨_, rfl⟩
        have cxk : wr.cell? ⟨bx, ox + k, none⟩ = some (.int .u64 (xk : Int)) := by rw [hxk]; exact HO.out.cell (HXC.out k hkx) hne0
        have HXK := Lib.hid hxk; have hxkb : xk < B64 := by rw [hxk]; exact lt_of_get HXB.out k hkx
        clear hxk
        obtain ⟨old, hold⟩ : ∃ old, wr.cell? ⟨g, o + k, none⟩ = some old := ⟨_, HBK.out.cell (o + k) _ (List.getElem?_eq_getElem (by rw [over_length (by rw [HD.out]; omega)]; omega))⟩
        have hfz : wr.frozen? ⟨g, o + k, none⟩ = false := HBK.out.frozen (o + k)
        by_cases hmx : xk = B64 - 1
        · have hne : (((xk : Nat) : Int) != 18446744073709551615) = false := by subst hmx; rfl
          go_wp2
          go_roundw
          case rel =>
            refine ⟨k + 1, ds ++ [0], by omega, by omega, by go_num, by simp [HD.out], lt_snoc HDB.out (by unfold B64; omega), ?_, ?_, HO.out.set_ _ _⟩
            · rw [natOf_snoc, HD.out, natOf_take_succ _ _ hkx, ← HXK.out]
              exact addW_more HS.out hmx
            · have := HBK.out.set_ (o + k) (0) (by unfold B64; omega)
              rw [← HD.out] at this ⊢
              rwa [over_snoc _ (by rw [HD.out]; omega)] at this
          case measure => simp [intOf]; omega
        · have hne : (((xk : Nat) : Int) != 18446744073709551615) = true := by simp; unfold B64 at *; omega
          have HX' := Lib.hid (show xk + 1 < B64 by unfold B64 at *; omega)
          obtain ⟨x', hx'⟩ : ∃ x', x' = xk + 1 := ⟨_, rfl⟩
          have hnw : IntKind.u64.wrap ((xk : Int) + 1) = ((x' : Nat) : Int) := by rw [hx']; simp only [IntKind.wrap_u64]; unfold B64 at *; omega
          have HWK := Lib.hid (show WB (wr.setCell ⟨g, o + k, none⟩ (.int .u64 (x' : Int))) g (over ws o (ds ++ [x'])) by
            have := HBK.out.set_ (o + k) x' (by rw [hx']; exact HX'.out)
            rw [← HD.out] at this ⊢
            rwa [over_snoc _ (by rw [HD.out]; omega)] at this)
          have HOK := Lib.hid (HO.out.set_ (o + k) (.int .u64 (x' : Int)))
          have q2 := fun j => HQ.out ((wr.setCell ⟨g, o + k, none⟩ (.int .u64 (x' : Int))).drewN j) (HOK.out.drewN j) ⟨_, HWK.out.drewN j⟩
          have q3 := HQ.out _ HOK.out ⟨_, HWK.out⟩
          have HFIN := Lib.hid (show EndA n (natOf (x0 :: xt)) y (natOf (ds ++ x' :: (x0 :: xt).drop (k + 1))) 0 by
            refine ⟨?_, by omega⟩
            rw [natOf_at HD.out, Nat.zero_mul, Nat.add_zero, natOf_split (x0 :: xt) k hkx, ← HXK.out, hx']
            exact addW_stop HS.out)
          have HXX := Lib.hid hx'
          clear hx'
          go_wp2
          go_quiet (fail)
          go_wp2
          have i2 : (k : Int) + 1 ≤ (n : Int) := by omega
          have i3 : (0 : Int) ≤ (k : Int) + 1 := by omega
          have i4 : ((k : Int) + 1).toNat = k + 1 := by omega
          have i5 : IntKind.i64.wrap ((k : Int) + 1) = (k : Int) + 1 := by simp only [IntKind.wrap_i64]; omega
          have HCK := Lib.hid (show ∀ j (h : j < ((x0 :: xt).drop (k + 1)).length), (wr.setCell ⟨g, o + k, none⟩ (.int .u64 (x' : Int))).cell? ⟨bx, ox + (k + 1) + j, none⟩ = some (.int .u64 (((x0 :: xt).drop (k + 1))[j] : Int)) by
            intro j h
            rw [List.getElem_drop]
            have := HOK.out.cell (HXC.out (k + 1 + j) (by rw [List.length_drop] at h; omega)) hne0
            rwa [show ox + (k + 1 + j) = ox + (k + 1) + j by omega] at this)
          have HXT := Lib.hid (show ((x0 :: xt).drop (k + 1)).length = n - (k + 1) by rw [List.length_drop, HXL.out])
          by_cases hz1 : cz = k + 1 <;> by_cases hx1 : cx = k + 1
          all_goals
            go_region_held3 (fun _ => True) (first | exact trivial) (first | (refine step_copy_over rfl (.tmp 69) (.tmp 73) 170 170 rfl 221 Tryz.underlying170 (by kernel_rfl) _ _ _ _ _ _ rfl rfl g (o + (k + 1)) (over ws o (ds ++ [x'])) (by exact HWK.out) ((x0 :: xt).drop (k + 1)) (by first | exact HXT.out | (have := HXT.out; omega)) (by first | exact HXT.out | (have := HXT.out; omega)) (by first | exact fun hp => ⟨rfl, bx, ox + (k + 1), rfl, HCK.out⟩ | exact fun hp => absurd hp (by have := HXT.out; omega)) (by rw [over_length (by simp [HD.out]; omega), HXT.out]; omega) (fun x hx => HXB.out x (List.mem_of_mem_drop hx)) ?_; intro w2 HR))
            go_wp2
            go_ret
            refine ⟨ds ++ x' :: (x0 :: xt).drop (k + 1), 0, rfl, B64_pos, ?_, lt_at HXB.out HDB.out (by rw [HXX.out]; exact HX'.out), HFIN.out, ?_, (by have := HR.out.2; exact HOK.out.trans' ⟨this.os, this.tape, this.output, this.size, this.block⟩)⟩
            · have := HD.out; have h2 := HXL.out; simp at h2 ⊢; omega
            · have := HR.out.1
              rw [show o + (k + 1) = o + (ds ++ [x']).length by simp [HD.out], over_join (by rw [HXT.out]; simp [HD.out]; omega), List.append_assoc] at this
              exact this
      · obtain rfl : k = n := by omega
        go_wp2
        go_ret
        exact ⟨ds, 1, rfl, by unfold B64; omega, HD.out, HDB.out, ⟨by have h := HS.out; rw [take_all HXL.out] at h; unfold RelA at h; omega, by omega⟩, HBK.out, HO.out⟩

set_option maxRecDepth 100000 in
set_option maxHeartbeats 1000000 in
theorem vSubVW_same (g o cz bx ox cx y : Nat) (ws xs : List Nat) (n : Nat) (w : World) (hn : n ≤ 1000000) (h1 : 1 ≤ n) (hcz : n ≤ cz) (hcx : n ≤ cx) (hb : WB w g ws) (ho : o + n ≤ ws.length) (hxb : ∀ x ∈ xs, x < B64) (hxc : ∀ j (h : j < xs.length), w.cell? ⟨bx, ox + j, none⟩ = some (.int .u64 (xs[j] : Int))) (hs : g = bx ∧ o = ox) (hxl : xs.length = n) (hy : y ≤ 1) :
    Calls Tryz.prog 223 #[.slice (some ⟨g, o, none⟩) n cz, .slice (some ⟨bx, ox, none⟩) n cx, .int .u64 y] w (RetV g ws o n (fun ds c => EndS n (natOf xs) y (natOf ds) c) w) := by
  obtain ⟨x0, xt, rfl⟩ : ∃ x0 xt, xs = x0 :: xt := by
    cases xs with
    | nil => simp at hxl; omega
    | cons a b => exact ⟨a, b, rfl⟩
  have cx0 : w.cell? ⟨bx, ox, none⟩ = some (.int .u64 (x0 : Int)) := hxc 0 (by simp)
  have hx0 : x0 < B64 := hxb x0 (by simp)
  obtain ⟨rfl, rfl⟩ := hs
  have HSM := Lib.hid (show ∀ j (hj : j < (x0 :: xt).length), ws[o + j]? = some (x0 :: xt)[j] from fun j hj => by
    have h1 := hxc j hj
    rw [hb.1.cell, List.getElem?_map] at h1
    obtain ⟨z, hz, hw⟩ := Option.map_eq_some_iff.1 h1
    rw [hz]
    have : ((z : Nat) : Int) = (((x0 :: xt)[j] : Nat) : Int) := by unfold wv at hw; injection hw
    congr 1; omega)
  have HOP := Lib.hid (bitsSub x0 y 0 (by omega) w)
  obtain ⟨d0, hd0⟩ : ∃ d0, d0 = (x0 + B64 - y - 0) % B64 := ⟨_, rfl⟩
  obtain ⟨c0, hc0⟩ : ∃ c0 : Nat, c0 = if x0 < y + 0 then 1 else 0 := ⟨_, rfl⟩
  rw [← hd0, ← hc0] at HOP
  have hd0b : d0 < B64 := by rw [hd0]; exact Nat.mod_lt _ B64_pos
  have hfirst := subW_first x0 y n xt hx0 hy
  rw [← hd0, ← hc0] at hfirst
  have hc01 := hfirst.2.2
  obtain ⟨old0, hold0⟩ : ∃ old, w.cell? ⟨g, o, none⟩ = some old := ⟨_, hb.cell o _ (List.getElem?_eq_getElem (by omega))⟩
  have hfz0 := hb.frozen o
  have HW0 := Lib.hid (show WB (w.setCell ⟨g, o, none⟩ (.int .u64 (d0 : Int))) g (over ws o [d0]) by
    have := hb.set_ o d0 hd0b
    have e := over_snoc (ws := ws) (o := o) (ds := []) d0 (by simp; omega)
    rw [over_nil] at e
    simp only [List.length_nil, Nat.add_zero, List.nil_append] at e
    rwa [e] at this)
  have HO0 := Lib.hid ((Only.refl g w).set_ o (.int .u64 (d0 : Int)))
  have HQ : Hid (∀ W, Only g w W → (∃ cs, WB W g cs) → (binOp .neq 290 (.pointer (some ⟨g, o, none⟩)) (.pointer (some ⟨g, o, none⟩))).run Tryz.prog W = .ok (.bool false) W) := fun W _ _ => word_neq_same W _
  have q0 := fun k => HQ.out ((w.setCell ⟨g, o, none⟩ (.int .u64 (d0 : Int))).drewN k) (HO0.out.drewN k) ⟨_, HW0.out.drewN k⟩
  have q1 := HQ.out _ HO0.out ⟨_, HW0.out⟩
  have HXC := Lib.hid hxc; have HXB := Lib.hid hxb; have HB := Lib.hid hb; have HXL := Lib.hid hxl; have HF := Lib.hid hfirst
  have HD0 := Lib.hid hd0b
  clear hxc hxb hb hxl hfirst hd0 hc0 hd0b hx0
  rcases (show c0 = 0 ∨ c0 = 1 by omega) with rfl | rfl
  · -- no carry: the rest is as it was
    clear hc01
    go_enter Tryz.func223, Tryz.ntmps223
    go_wp2_with (go_at_call 275; refine HOP.out.mono ?_; rintro e w' ⟨rfl, hw'⟩; obtain rfl := hw'.symm)
    go_quiet (fail)
    go_wp2
    go_ret
    refine ⟨d0 :: xt, 0, rfl, B64_pos, by have := HXL.out; simpa using this, ?_, HF.out.1 (by first | rfl | trivial), ?_, HO0.out.drewN _⟩
    · intro x hx
      rcases List.mem_cons.1 hx with rfl | hx
      · exact HD0.out
      · exact HXB.out x (List.mem_cons_of_mem _ hx)
    · have := over_same (ws := ws) (o := o) (xs := x0 :: xt) (ds := [d0]) HSM.out (by simp) (by rw [HXL.out]; exact ho)
      have h2 := HW0.out.drewN nq
      rw [this] at h2
      exact h2
  · clear hc01 q0 q1
    go_enter Tryz.func223, Tryz.ntmps223
    go_wp2_with (go_at_call 275; refine HOP.out.mono ?_; rintro e w' ⟨rfl, hw'⟩; obtain rfl := hw'.symm)
    go_loopw [9] (fun i wr => ∃ (k : Nat) (ds : List Nat), 1 ≤ k ∧ k ≤ n ∧ i = .int .i64 k ∧ ds.length = k ∧ (∀ d ∈ ds, d < B64) ∧ RelS (natOf ds) k (natOf ((x0 :: xt).take k)) y ∧ WB wr g (over ws o ds) ∧ Only g w wr) (fun i _ => n - (intOf i).toNat)
    case atStart => exact ⟨1, [d0], Nat.le_refl _, h1, rfl, rfl, by simpa using HD0.out, HF.out.2.1 (by first | rfl | trivial), HW0.out, HO0.out⟩
    case round =>
      obtain ⟨k, ds, hk1, hk, rfl, hdl, hdb, hsum, hblk, honly⟩ := hrel
      have HD := Lib.hid hdl; have HDB := Lib.hid hdb; have HS := Lib.hid hsum; have HBK := Lib.hid hblk; have HO := Lib.hid honly
      clear hdl hdb hsum hblk honly
      by_cases hlt : k < n
      · have hkx : k < (x0 :: xt).length := by rw [HXL.out]; exact hlt
        obtain ⟨xk, hxk⟩ : ∃ xk, xk = (x0 :: xt)[k] := ⟨_, rfl⟩
        have cxk : wr.cell? ⟨g, o + k, none⟩ = some (.int .u64 (xk : Int)) := by rw [hxk, HBK.out.1.cell, List.getElem?_map, over_get (by rw [HD.out]; omega), if_neg (by omega), if_neg (by rw [HD.out]; omega), HSM.out k hkx]; rfl
        have HXK := Lib.hid hxk; have hxkb : xk < B64 := by rw [hxk]; exact lt_of_get HXB.out k hkx
        clear hxk
        obtain ⟨old, hold⟩ : ∃ old, wr.cell? ⟨g, o + k, none⟩ = some old := ⟨_, HBK.out.cell (o + k) _ (List.getElem?_eq_getElem (by rw [over_length (by rw [HD.out]; omega)]; omega))⟩
        have hfz : wr.frozen? ⟨g, o + k, none⟩ = false := HBK.out.frozen (o + k)
        by_cases hmx : xk = 0
        · have hne : (((xk : Nat) : Int) != 0) = false := by subst hmx; rfl
          go_wp2
          go_roundw
          case rel =>
            refine ⟨k + 1, ds ++ [B64 - 1], by omega, by omega, by go_num, by simp [HD.out], lt_snoc HDB.out (by unfold B64; omega), ?_, ?_, HO.out.set_ _ _⟩
            · rw [natOf_snoc, HD.out, natOf_take_succ _ _ hkx, ← HXK.out]
              exact subW_more HS.out hmx
            · have := HBK.out.set_ (o + k) (B64 - 1) (by unfold B64; omega)
              rw [← HD.out] at this ⊢
              rwa [over_snoc _ (by rw [HD.out]; omega)] at this
          case measure => simp [intOf]; omega
        · have hne : (((xk : Nat) : Int) != 0) = true := by simp; unfold B64 at *; omega
          have HX' := Lib.hid (show xk - 1 < B64 by unfold B64 at *; omega)
          obtain ⟨x', hx'⟩ : ∃ x', x' = xk - 1 := ⟨_, rfl⟩
          have hnw : IntKind.u64.wrap ((xk : Int) - 1) = ((x' : Nat) : Int) := by rw [hx']; simp only [IntKind.wrap_u64]; unfold B64 at *; omega
          have HWK := Lib.hid (show WB (wr.setCell ⟨g, o + k, none⟩ (.int .u64 (x' : Int))) g (over ws o (ds ++ [x'])) by
            have := HBK.out.set_ (o + k) x' (by rw [hx']; exact HX'.out)
            rw [← HD.out] at this ⊢
            rwa [over_snoc _ (by rw [HD.out]; omega)] at this)
          have HOK := Lib.hid (HO.out.set_ (o + k) (.int .u64 (x' : Int)))
          have q2 := fun j => HQ.out ((wr.setCell ⟨g, o + k, none⟩ (.int .u64 (x' : Int))).drewN j) (HOK.out.drewN j) ⟨_, HWK.out.drewN j⟩
          have q3 := HQ.out _ HOK.out ⟨_, HWK.out⟩
          have HFIN := Lib.hid (show EndS n (natOf (x0 :: xt)) y (natOf (ds ++ x' :: (x0 :: xt).drop (k + 1))) 0 by
            refine ⟨?_, by omega⟩
            rw [natOf_at HD.out, Nat.zero_mul, Nat.add_zero, natOf_split (x0 :: xt) k hkx, ← HXK.out, hx']
            exact subW_stop HS.out (by omega))
          have HXX := Lib.hid hx'
          clear hx'
          go_wp2
          go_quiet (fail)
          go_wp2
          go_ret
          refine ⟨ds ++ x' :: (x0 :: xt).drop (k + 1), 0, rfl, B64_pos, ?_, lt_at HXB.out HDB.out (by rw [HXX.out]; exact HX'.out), HFIN.out, ?_, HOK.out.drewN _⟩
          · have := HD.out; have h2 := HXL.out; simp at h2 ⊢; omega
          · have := over_same (ws := ws) (o := o) (xs := x0 :: xt) (ds := ds ++ [x']) HSM.out (by simp [HD.out]; have := HXL.out; simp at this; omega) (by rw [HXL.out]; exact ho)
            rw [List.append_assoc, List.length_append, HD.out] at this
            have h2 := HWK.out.drewN nq
            rw [this] at h2
            exact h2
      · obtain rfl : k = n := by omega
        go_wp2
        go_ret
        exact ⟨ds, 1, rfl, by unfold B64; omega, HD.out, HDB.out, ⟨by have h := HS.out; rw [take_all HXL.out] at h; unfold RelS at h; omega, by omega⟩, HBK.out, HO.out⟩

set_option maxRecDepth 100000 in
set_option maxHeartbeats 1000000 in
theorem vSubVW_other (g o cz bx ox cx y : Nat) (ws xs : List Nat) (n : Nat) (w : World) (hn : n ≤ 1000000) (h1 : 1 ≤ n) (hcz : n ≤ cz) (hcx : n ≤ cx) (hb : WB w g ws) (ho : o + n ≤ ws.length) (hxb : ∀ x ∈ xs, x < B64) (hxc : ∀ j (h : j < xs.length), w.cell? ⟨bx, ox + j, none⟩ = some (.int .u64 (xs[j] : Int))) (hne0 : bx ≠ g) (hbk : ∃ cs, Blk w bx 221 cs) (hxl : xs.length = n) (hy : y ≤ 1) :
    Calls Tryz.prog 223 #[.slice (some ⟨g, o, none⟩) n cz, .slice (some ⟨bx, ox, none⟩) n cx, .int .u64 y] w (RetV g ws o n (fun ds c => EndS n (natOf xs) y (natOf ds) c) w) := by
  obtain ⟨x0, xt, rfl⟩ : ∃ x0 xt, xs = x0 :: xt := by
    cases xs with
    | nil => simp at hxl; omega
    | cons a b => exact ⟨a, b, rfl⟩
  have cx0 : w.cell? ⟨bx, ox, none⟩ = some (.int .u64 (x0 : Int)) := hxc 0 (by simp)
  have hx0 : x0 < B64 := hxb x0 (by simp)
  have hne := hne0
  have HOP := Lib.hid (bitsSub x0 y 0 (by omega) w)
  obtain ⟨d0, hd0⟩ : ∃ d0, d0 = (x0 + B64 - y - 0) % B64 := ⟨_, rfl⟩
  obtain ⟨c0, hc0⟩ : ∃ c0 : Nat, c0 = if x0 < y + 0 then 1 else 0 := ⟨_, rfl⟩
  rw [← hd0, ← hc0] at HOP
  have hd0b : d0 < B64 := by rw [hd0]; exact Nat.mod_lt _ B64_pos
  have hfirst := subW_first x0 y n xt hx0 hy
  rw [← hd0, ← hc0] at hfirst
  have hc01 := hfirst.2.2
  obtain ⟨old0, hold0⟩ : ∃ old, w.cell? ⟨g, o, none⟩ = some old := ⟨_, hb.cell o _ (List.getElem?_eq_getElem (by omega))⟩
  have hfz0 := hb.frozen o
  have HW0 := Lib.hid (show WB (w.setCell ⟨g, o, none⟩ (.int .u64 (d0 : Int))) g (over ws o [d0]) by
    have := hb.set_ o d0 hd0b
    have e := over_snoc (ws := ws) (o := o) (ds := []) d0 (by simp; omega)
    rw [over_nil] at e
    simp only [List.length_nil, Nat.add_zero, List.nil_append] at e
    rwa [e] at this)
  have HO0 := Lib.hid ((Only.refl g w).set_ o (.int .u64 (d0 : Int)))
  have HQ : Hid (∀ W, Only g w W → (∃ cs, WB W g cs) → (binOp .neq 290 (.pointer (some ⟨g, o, none⟩)) (.pointer (some ⟨bx, ox, none⟩))).run Tryz.prog W = .ok (.bool true) W) := fun W ho hw => by
    obtain ⟨cs, hcs⟩ := hw
    obtain ⟨cb, hcb⟩ := hbk
    exact word_neq W (a := ⟨g, o, none⟩) (b := ⟨bx, ox, none⟩) hcs.1 (ho.block' hcb hne0) (by intro e; injection e with e; exact hne0 e.symm)
  have q0 := fun k => HQ.out ((w.setCell ⟨g, o, none⟩ (.int .u64 (d0 : Int))).drewN k) (HO0.out.drewN k) ⟨_, HW0.out.drewN k⟩
  have q1 := HQ.out _ HO0.out ⟨_, HW0.out⟩
  have HXC := Lib.hid hxc; have HXB := Lib.hid hxb; have HB := Lib.hid hb; have HXL := Lib.hid hxl; have HF := Lib.hid hfirst
  have HD0 := Lib.hid hd0b
  clear hxc hxb hb hxl hfirst hd0 hc0 hd0b hx0
  rcases (show c0 = 0 ∨ c0 = 1 by omega) with rfl | rfl
  · -- no carry: the rest is as it was
    clear hc01
    go_enter Tryz.func223, Tryz.ntmps223
    go_wp2_with (go_at_call 275; refine HOP.out.mono ?_; rintro e w' ⟨rfl, hw'⟩; obtain rfl := hw'.symm)
    go_quiet (fail)
    go_wp2
    have i1 : (1 : Int) ≤ (n : Int) := by omega
    have HC0 := Lib.hid (show ∀ j (h : j < xt.length), (w.setCell ⟨g, o, none⟩ (.int .u64 (d0 : Int))).cell? ⟨bx, ox + 1 + j, none⟩ = some (.int .u64 (xt[j] : Int)) by
      intro j h
      have := HO0.out.cell (HXC.out (j + 1) (by simp; omega)) hne
      rwa [show ox + (j + 1) = ox + 1 + j by omega] at this)
    have HXT := Lib.hid (show xt.length = n - 1 by have := HXL.out; simp at this; omega)
    by_cases hz1 : cz = 1 <;> by_cases hx1 : cx = 1
    all_goals
      go_region_held3 (fun _ => True) (first | exact trivial) (first | (refine step_copy_over rfl (.tmp 40) (.tmp 42) 170 170 rfl 221 Tryz.underlying170 (by kernel_rfl) _ _ _ _ _ _ rfl rfl g (o + 1) (over ws o [d0]) (by exact HW0.out) xt (by first | exact HXT.out | (have := HXT.out; omega)) (by first | exact HXT.out | (have := HXT.out; omega)) (by first | exact fun hp => ⟨rfl, bx, ox + 1, rfl, HC0.out⟩ | exact fun hp => absurd hp (by have := HXT.out; omega)) (by rw [over_length (by simp; omega), HXT.out]; omega) (fun x hx => HXB.out x (List.mem_cons_of_mem _ hx)) ?_; intro w2 HR))
      go_wp2
      go_ret
      refine ⟨d0 :: xt, 0, rfl, B64_pos, by have := HXL.out; simpa using this, ?_, HF.out.1 (by first | rfl | trivial), ?_, (by have := HR.out.2; exact HO0.out.trans' ⟨this.os, this.tape, this.output, this.size, this.block⟩)⟩
      · intro x hx
        rcases List.mem_cons.1 hx with rfl | hx
        · exact HD0.out
        · exact HXB.out x (List.mem_cons_of_mem _ hx)
      · have := HR.out.1
        rwa [show o + 1 = o + [d0].length from rfl, over_join (by simp; have := HXT.out; omega)] at this
  · clear hc01 q0 q1
    go_enter Tryz.func223, Tryz.ntmps223
    go_wp2_with (go_at_call 275; refine HOP.out.mono ?_; rintro e w' ⟨rfl, hw'⟩; obtain rfl := hw'.symm)
    go_loopw [9] (fun i wr => ∃ (k : Nat) (ds : List Nat), 1 ≤ k ∧ k ≤ n ∧ i = .int .i64 k ∧ ds.length = k ∧ (∀ d ∈ ds, d < B64) ∧ RelS (natOf ds) k (natOf ((x0 :: xt).take k)) y ∧ WB wr g (over ws o ds) ∧ Only g w wr) (fun i _ => n - (intOf i).toNat)
    case atStart => exact ⟨1, [d0], Nat.le_refl _, h1, rfl, rfl, by simpa using HD0.out, HF.out.2.1 (by first | rfl | trivial), HW0.out, HO0.out⟩
    case round =>
      obtain ⟨k, ds, hk1, hk, rfl, hdl, hdb, hsum, hblk, honly⟩ := hrel
      have HD := Lib.hid hdl; have HDB := Lib.hid hdb; have HS := Lib.hid hsum; have HBK := Lib.hid hblk; have HO := Lib.hid honly
      clear hdl hdb hsum hblk honly
      by_cases hlt : k < n
      · have hkx : k < (x0 :: xt).length := by rw [HXL.out]; exact hlt
        obtain ⟨xk, hxk⟩ : ∃ xk, xk = (x0 :: xt)[k] := ⟨_, rfl⟩
        have cxk : wr.cell? ⟨bx, ox + k, none⟩ = some (.int .u64 (xk : Int)) := by rw [hxk]; exact HO.out.cell (HXC.out k hkx) hne0
        have HXK := Lib.hid hxk; have hxkb : xk < B64 := by rw [hxk]; exact lt_of_get HXB.out k hkx
        clear hxk
        obtain ⟨old, hold⟩ : ∃ old, wr.cell? ⟨g, o + k, none⟩ = some old := ⟨_, HBK.out.cell (o + k) _ (List.getElem?_eq_getElem (by rw [over_length (by rw [HD.out]; omega)]; omega))⟩
        have hfz : wr.frozen? ⟨g, o + k, none⟩ = false := HBK.out.frozen (o + k)
        by_cases hmx : xk = 0
        · have hne : (((xk : Nat) : Int) != 0) = false := by subst hmx; rfl
          go_wp2
          go_roundw
          case rel =>
            refine ⟨k + 1, ds ++ [B64 - 1], by omega, by omega, by go_num, by simp [HD.out], lt_snoc HDB.out (by unfold B64; omega), ?_, ?_, HO.out.set_ _ _⟩
            · rw [natOf_snoc, HD.out, natOf_take_succ _ _ hkx, ← HXK.out]
              exact subW_more HS.out hmx
            · have := HBK.out.set_ (o + k) (B64 - 1) (by unfold B64; omega)
              rw [← HD.out] at this ⊢
              rwa [over_snoc _ (by rw [HD.out]; omega)] at this
          case measure => simp [intOf]; omega
        · have hne : (((xk : Nat) : Int) != 0) = true := by simp; unfold B64 at *; omega
          have HX' := Lib.hid (show xk - 1 < B64 by unfold B64 at *; omega)
          obtain ⟨x', hx'⟩ : ∃ x', x' = xk - 1 := ⟨_, rfl⟩
          have hnw : IntKind.u64.wrap ((xk : Int) - 1) = ((x' : Nat) : Int) := by rw [hx']; simp only [IntKind.wrap_u64]; unfold B64 at *; omega
          have HWK := Lib.hid (show WB (wr.setCell ⟨g, o + k, none⟩ (.int .u64 (x' : Int))) g (over ws o (ds ++ [x'])) by
            have := HBK.out.set_ (o + k) x' (by rw [hx']; exact HX'.out)
            rw [← HD.out] at this ⊢
            rwa [over_snoc _ (by rw [HD.out]; omega)] at this)
          have HOK := Lib.hid (HO.out.set_ (o + k) (.int .u64 (x' : Int)))
          have q2 := fun j => HQ.out ((wr.setCell ⟨g, o + k, none⟩ (.int .u64 (x' : Int))).drewN j) (HOK.out.drewN j) ⟨_, HWK.out.drewN j⟩
          have q3 := HQ.out _ HOK.out ⟨_, HWK.out⟩
          have HFIN := Lib.hid (show EndS n (natOf (x0 :: xt)) y (natOf (ds ++ x' :: (x0 :: xt).drop (k + 1))) 0 by
            refine ⟨?_, by omega⟩
            rw [natOf_at HD.out, Nat.zero_mul, Nat.add_zero, natOf_split (x0 :: xt) k hkx, ← HXK.out, hx']
            exact subW_stop HS.out (by omega))
          have HXX := Lib.hid hx'
          clear hx'
          go_wp2
          go_quiet (fail)
          go_wp2
          have i2 : (k : Int) + 1 ≤ (n : Int) := by omega
          have i3 : (0 : Int) ≤ (k : Int) + 1 := by omega
          have i4 : ((k : Int) + 1).toNat = k + 1 := by omega
          have i5 : IntKind.i64.wrap ((k : Int) + 1) = (k : Int) + 1 := by simp only [IntKind.wrap_i64]; omega
          have HCK := Lib.hid (show ∀ j (h : j < ((x0 :: xt).drop (k + 1)).length), (wr.setCell ⟨g, o + k, none⟩ (.int .u64 (x' : Int))).cell? ⟨bx, ox + (k + 1) + j, none⟩ = some (.int .u64 (((x0 :: xt).drop (k + 1))[j] : Int)) by
            intro j h
            rw [List.getElem_drop]
            have := HOK.out.cell (HXC.out (k + 1 + j) (by rw [List.length_drop] at h; omega)) hne0
            rwa [show ox + (k + 1 + j) = ox + (k + 1) + j by omega] at this)
          have HXT := Lib.hid (show ((x0 :: xt).drop (k + 1)).length = n - (k + 1) by rw [List.length_drop, HXL.out])
          by_cases hz1 : cz = k + 1 <;> by_cases hx1 : cx = k + 1
          all_goals
            go_region_held3 (fun _ => True) (first | exact trivial) (first | (refine step_copy_over rfl (.tmp 69) (.tmp 73) 170 170 rfl 221 Tryz.underlying170 (by kernel_rfl) _ _ _ _ _ _ rfl rfl g (o + (k + 1)) (over ws o (ds ++ [x'])) (by exact HWK.out) ((x0 :: xt).drop (k + 1)) (by first | exact HXT.out | (have := HXT.out; omega)) (by first | exact HXT.out | (have := HXT.out; omega)) (by first | exact fun hp => ⟨rfl, bx, ox + (k + 1), rfl, HCK.out⟩ | exact fun hp => absurd hp (by have := HXT.out; omega)) (by rw [over_length (by simp [HD.out]; omega), HXT.out]; omega) (fun x hx => HXB.out x (List.mem_of_mem_drop hx)) ?_; intro w2 HR))
            go_wp2
            go_ret
            refine ⟨ds ++ x' :: (x0 :: xt).drop (k + 1), 0, rfl, B64_pos, ?_, lt_at HXB.out HDB.out (by rw [HXX.out]; exact HX'.out), HFIN.out, ?_, (by have := HR.out.2; exact HOK.out.trans' ⟨this.os, this.tape, this.output, this.size, this.block⟩)⟩
            · have := HD.out; have h2 := HXL.out; simp at h2 ⊢; omega
            · have := HR.out.1
              rw [show o + (k + 1) = o + (ds ++ [x']).length by simp [HD.out], over_join (by rw [HXT.out]; simp [HD.out]; omega), List.append_assoc] at this
              exact this
      · obtain rfl : k = n := by omega
        go_wp2
        go_ret
        exact ⟨ds, 1, rfl, by unfold B64; omega, HD.out, HDB.out, ⟨by have h := HS.out; rw [take_all HXL.out] at h; unfold RelS at h; omega, by omega⟩, HBK.out, HO.out⟩

theorem vAddVW (g o cz bx ox cx y : Nat) (ws xs : List Nat) (n : Nat) (w : World) (hn : n ≤ 1000000) (h1 : 1 ≤ n) (hcz : n ≤ cz) (hcx : n ≤ cx) (hb : WB w g ws) (ho : o + n ≤ ws.length) (hxb : ∀ x ∈ xs, x < B64) (hxc : ∀ j (h : j < xs.length), w.cell? ⟨bx, ox + j, none⟩ = some (.int .u64 (xs[j] : Int))) (hs : (bx ≠ g ∧ ∃ cs, Blk w bx 221 cs) ∨ (g = bx ∧ o = ox)) (hxl : xs.length = n) (hy : y ≤ 1) :
    Calls Tryz.prog 220 #[.slice (some ⟨g, o, none⟩) n cz, .slice (some ⟨bx, ox, none⟩) n cx, .int .u64 y] w (RetV g ws o n (fun ds c => EndA n (natOf xs) y (natOf ds) c) w) := by
  rcases hs with ⟨hne, hbk⟩ | hs
  · exact vAddVW_other g o cz bx ox cx y ws xs n w hn h1 hcz hcx hb ho hxb hxc hne hbk hxl hy
  · exact vAddVW_same g o cz bx ox cx y ws xs n w hn h1 hcz hcx hb ho hxb hxc hs hxl hy

theorem vSubVW (g o cz bx ox cx y : Nat) (ws xs : List Nat) (n : Nat) (w : World) (hn : n ≤ 1000000) (h1 : 1 ≤ n) (hcz : n ≤ cz) (hcx : n ≤ cx) (hb : WB w g ws) (ho : o + n ≤ ws.length) (hxb : ∀ x ∈ xs, x < B64) (hxc : ∀ j (h : j < xs.length), w.cell? ⟨bx, ox + j, none⟩ = some (.int .u64 (xs[j] : Int))) (hs : (bx ≠ g ∧ ∃ cs, Blk w bx 221 cs) ∨ (g = bx ∧ o = ox)) (hxl : xs.length = n) (hy : y ≤ 1) :
    Calls Tryz.prog 223 #[.slice (some ⟨g, o, none⟩) n cz, .slice (some ⟨bx, ox, none⟩) n cx, .int .u64 y] w (RetV g ws o n (fun ds c => EndS n (natOf xs) y (natOf ds) c) w) := by
  rcases hs with ⟨hne, hbk⟩ | hs
  · exact vSubVW_other g o cz bx ox cx y ws xs n w hn h1 hcz hcx hb ho hxb hxc hne hbk hxl hy
  · exact vSubVW_same g o cz bx ox cx y ws xs n w hn h1 hcz hcx hb ho hxb hxc hs hxl hy
end Go.Proofs.YtfafiahefjimdaaGreatDoor

namespace Go.Proofs.YtfafiahefjimdaaGreatDoor
open Go Go.RowKit

theorem Src.take {w : World} {g o b' o' : Nat} {xs : List Nat} (h : Src w g o b' o' xs) (n : Nat) : Src w g o b' o' (xs.take n) :=
  ⟨fun x hx => h.1 x (List.mem_of_mem_take hx), fun j hj => by rw [List.getElem_take]; exact h.2.1 j (by simp at hj; omega), h.2.2⟩

set_option maxRecDepth 100000 in
theorem gMake0 (A : Option Addr) (n0 c gz : Nat) (zs : List Nat) (w : World) (hz : NatV w A c gz zs) :
    Calls Tryz.prog 218 #[.slice A n0 c, .int .i64 0] w (fun e w' => e = .returned (.slice A 0 c) ∧ w' = w) := by
  have hd : decide ((0 : Int) ≤ (c : Int)) = true := by simp
  rcases hz with ⟨rfl, rfl, _⟩ | ⟨rfl, h0, _⟩
  · go_enter Tryz.func218, Tryz.ntmps218
    go_wp2
    go_ret
    exact ⟨rfl, rfl⟩
  · go_enter Tryz.func218, Tryz.ntmps218
    go_wp2
    go_ret
    exact ⟨rfl, rfl⟩

set_option maxRecDepth 100000 in
theorem gSet (A : Option Addr) (n0 c gz : Nat) (zs : List Nat) (B : Option Addr) (cb : Nat) (xs : List Nat) (m : Nat) (w : World) (hz : NatV w A c gz zs) (hx : Opd w gz c B cb xs) (hm : xs.length = m) (hn : m ≤ 100000) (hN : Norm xs) :
    Calls Tryz.prog 217 #[.slice A n0 c, .slice B m cb] w (RetN gz (natOf xs) w) := by
  rcases Nat.eq_zero_or_pos m with h0 | h0
  · subst h0
    have hxs : xs = [] := List.eq_nil_of_length_eq_zero hm
    have HR := Lib.hid (retN_zero hz)
    rw [show natOf xs = 0 by rw [hxs]; rfl]
    have HM := Lib.hid (gMake0 A n0 c gz zs w hz)
    clear hz hx hm hn hN hxs
    go_enter Tryz.func217, Tryz.ntmps217
    go_wp2_with (first | (go_at_call 218; refine HM.out.mono ?_; rintro e w' ⟨rfl, rfl⟩) | (with_reducible refine wpList_copy_nothing rfl (.tmp 9) (.tmp 10) 171 171 rfl 221 Tryz.underlying171 (by kernel_rfl) _ _ _ _ _ _ rfl rfl rfl ?_))
    go_ret
    exact HR.out
  · have hne : xs ≠ [] := by intro e; subst e; simp at hm; omega
    have H := Lib.hid (gMake A n0 c gz zs m w hz h0 (by omega))
    have HX := Lib.hid hx; have HL := Lib.hid hm
    clear hz hx hm
    obtain ⟨bx0, ox0, hB, _⟩ := HX.out.2.2 hne
    subst hB
    go_enter Tryz.func217, Tryz.ntmps217
    go_wp2_with (fail)
    go_at_call 218
    refine H.out.mono ?_
    rintro e w1 ⟨g, c', full, rfl, hc, hb, hl, hmd⟩
    obtain ⟨bx, ox, hA, hsrc⟩ := HX.out.src hne hmd
    injection hA with hA; injection hA with h1 h2 h3; subst h1; subst h2
    have HS := Lib.hid hsrc; have HB := Lib.hid hb; have HF := Lib.hid hl; have HM := Lib.hid hmd; clear hb hl hmd hsrc h3
    go_wp2_with (first | (refine wpList_copy_over rfl (.tmp 9) (.tmp 10) 171 171 rfl 221 Tryz.underlying171 (by kernel_rfl) (some ⟨g, 0, none⟩) (some ⟨bx0, ox0, none⟩) m c' m cb rfl rfl g 0 full HB.out xs HL.out HL.out (fun _ => ⟨rfl, bx0, ox0, rfl, HS.out.2.1⟩) (by have := HF.out; have := HL.out; omega) HS.out.1 ?_; intro w2 HR))
    go_wp2
    go_ret
    have := norm_end (es := xs) (ds := xs) (N := natOf xs) HM.out HR.out.2 HR.out.1 HF.out (by omega) (by have := HL.out; omega) (by simp) hN rfl rfl
    rw [HL.out] at this
    exact this

/-- The words of an operand behind a place, after the words ahead of it were written. -/
theorem Src.rest {w w2 : World} {g n bx ox : Nat} {xs full ds : List Nat} (h : Src w g 0 bx ox xs) (hb : WB w g full) (ho : Only g w w2) (hw : WB w2 g (over full 0 ds)) (hd : ds.length = n) (hf : n ≤ full.length) : ∀ j (hj : j < (xs.drop n).length), w2.cell? ⟨bx, ox + n + j, none⟩ = some (.int .u64 (((xs.drop n)[j] : Nat) : Int)) := fun j hj => by
  rw [List.getElem_drop, Nat.add_assoc]
  exact h.read hb ho hw (by omega) (n + j) (by omega) (by rw [List.length_drop] at hj; omega)
theorem Src.sep {w w2 : World} {g n bx ox : Nat} {xs : List Nat} (h : Src w g 0 bx ox xs) (hk : ∃ cs, Blk w bx 221 cs) (ho : Only g w w2) : (bx ≠ g ∧ ∃ cs, Blk w2 bx 221 cs) ∨ (g = bx ∧ n = ox + n) := by
  rcases h.2.2 with hne | ⟨h1, h2⟩
  · obtain ⟨cs, hk⟩ := hk
    exact Or.inl ⟨hne, cs, ho.block' hk hne⟩
  · exact Or.inr ⟨h1.symm, by omega⟩
theorem Opd.blk {w w1 : World} {gz cz g bx ox c : Nat} {xs : List Nat} (h : Opd w gz cz (some ⟨bx, ox, none⟩) c xs) (hn : xs ≠ []) (hm : Made gz g w w1) : ∃ cs, Blk w1 bx 221 cs := by
  obtain ⟨b', o', e, ⟨cs, hk⟩, _⟩ := h.2.2 hn
  injection e with e; injection e with e1 e2 e3; subst e1
  rcases hm with ⟨_, rfl⟩ | ⟨_, e⟩
  · exact ⟨cs, hk⟩
  · exact ⟨cs, hk.ext e⟩
theorem take_ne {xs : List Nat} {n m : Nat} (hm : xs.length = m) (hn : n ≤ m) : (xs.take n).length = n := by rw [List.length_take]; omega
theorem natOf_cut {xs : List Nat} {n : Nat} (h : n ≤ xs.length) : natOf xs = natOf (xs.take n) + B64 ^ n * natOf (xs.drop n) := by
  conv => lhs; rw [← List.take_append_drop n xs, natOf_append, List.length_take, Nat.min_eq_left h]
theorem addV_end {xs ys ds es : List Nat} {n k m c1 c2 : Nat} (hm : xs.length = m) (hmk : m = n + k) (hd : ds.length = n) (he : es.length = k) (h1 : natOf ds + c1 * B64 ^ n = natOf (xs.take n) + natOf ys) (h2 : natOf es + c2 * B64 ^ k = natOf (xs.drop n) + c1) : natOf (ds ++ es ++ [c2]) = natOf xs + natOf ys := by
  rw [natOf_snoc, natOf_append, hd, natOf_cut (xs := xs) (n := n) (by omega)]
  rw [show (ds ++ es).length = n + k by simp [hd, he], Nat.pow_add]
  have e : B64 ^ n * (natOf es + c2 * B64 ^ k) = B64 ^ n * (natOf (xs.drop n) + c1) := by rw [h2]
  rw [Nat.mul_add, Nat.mul_add] at e
  have e2 : B64 ^ n * (c2 * B64 ^ k) = B64 ^ n * B64 ^ k * c2 := by rw [Nat.mul_comm c2, Nat.mul_assoc]
  have e3 : c1 * B64 ^ n = B64 ^ n * c1 := Nat.mul_comm _ _
  omega
theorem subV_end {xs ys ds es : List Nat} {n k m c1 c2 : Nat} (hm : xs.length = m) (hmk : m = n + k) (hd : ds.length = n) (he : es.length = k) (h1 : natOf ds + natOf ys = natOf (xs.take n) + c1 * B64 ^ n) (h2 : natOf es + c1 = natOf (xs.drop n) + c2 * B64 ^ k) : natOf (ds ++ es) + natOf ys = natOf xs + c2 * B64 ^ m := by
  rw [natOf_append, hd, natOf_cut (xs := xs) (n := n) (by omega), hmk, Nat.pow_add]
  have e : B64 ^ n * (natOf es + c1) = B64 ^ n * (natOf (xs.drop n) + c2 * B64 ^ k) := by rw [h2]
  rw [Nat.mul_add, Nat.mul_add] at e
  have e2 : B64 ^ n * (c2 * B64 ^ k) = c2 * (B64 ^ n * B64 ^ k) := by ac_rfl
  have e3 : c1 * B64 ^ n = B64 ^ n * c1 := Nat.mul_comm _ _
  omega

set_option maxRecDepth 100000 in
set_option maxHeartbeats 1000000 in
theorem gAddA (A : Option Addr) (n0 c gz : Nat) (zs : List Nat) (B D : Option Addr) (cb cd : Nat) (xs ys : List Nat) (n k m : Nat) (hmk : m = n + k) (w : World) (hz : NatV w A c gz zs) (hx : Opd w gz c B cb xs) (hy : Opd w gz c D cd ys) (hm : xs.length = m) (hn : ys.length = n) (hmx : m ≤ 100000) (h0 : 0 < n)  :
    Calls Tryz.prog 174 #[.slice A n0 c, .slice B m cb, .slice D n cd] w (RetN gz (natOf xs + natOf ys) w) := by
  have hnx : xs ≠ [] := by intro e; subst e; simp at hm; omega
  have hny : ys ≠ [] := by intro e; subst e; simp at hn; omega
  have e0 : decide ((m : Int) < (n : Int)) = false := by simp; omega
  have e1 : ((m : Int) == 0) = false := by simp; omega
  have e2 : ((n : Int) == 0) = false := by simp; omega
  have H := Lib.hid (gMake A n0 c gz zs (m + 1) w hz (by omega) (by omega))
  rw [show ((m + 1 : Nat) : Int) = (m : Int) + 1 by omega] at H
  have lcb := hx.2.1; have lcd := hy.2.1
  rw [hm] at lcb; rw [hn] at lcd
  have HX := Lib.hid hx; have HY := Lib.hid hy; have HXL := Lib.hid hm; have HYL := Lib.hid hn
  have HMK := Lib.hid hmk
  have hle : n ≤ m := by omega
  clear hz hx hy hm hn hmk
  obtain ⟨bx0, ox0, hB, _⟩ := HX.out.2.2 hnx
  subst hB
  obtain ⟨by0, oy0, hB, _⟩ := HY.out.2.2 hny
  subst hB
  go_enter Tryz.func174, Tryz.ntmps174
  go_wp2_with (fail)
  go_at_call 218
  refine H.out.mono ?_
  rintro e w1 ⟨g, c', full, rfl, hc, hb, hl, hmd⟩
  obtain ⟨hc1, hc2⟩ := hc
  obtain ⟨bx, ox, hA, hsx⟩ := HX.out.src hnx hmd
  injection hA with hA; injection hA with t1 t2 t3; subst t1; subst t2; clear t3
  obtain ⟨by_, oy, hA, hsy⟩ := HY.out.src hny hmd
  injection hA with hA; injection hA with t1 t2 t3; subst t1; subst t2; clear t3
  have hkx := HX.out.blk hnx hmd
  have HSX := Lib.hid hsx; have HSY := Lib.hid hsy; have HB := Lib.hid hb; have HF := Lib.hid hl; have HM := Lib.hid hmd; have HKX := Lib.hid hkx
  clear hsx hsy hb hl hmd hkx
  have HV := Lib.hid (vAddVV g 0 c' bx0 ox0 cb by0 oy0 cd full (xs.take n) ys n w1.drew (by omega) (show WB w1.drew g full from HB.out) (by have := HF.out; omega) (show Src w1.drew g 0 bx0 ox0 (xs.take n) from HSX.out.take n) (take_ne HXL.out (by omega)) (show Src w1.drew g 0 by0 oy0 ys from HSY.out) HYL.out)
  have i1 : (n : Int) ≤ (c' : Int) := by omega
  have i2 : (n : Int) ≤ (cb : Int) := by omega
  have i3 : (n : Int) ≤ (cd : Int) := by omega
  have i4 : (n : Int) ≤ (m : Int) := by omega
  have i5 : (m : Int) ≤ (c' : Int) := by omega
  have i6 : (m : Int) ≤ (cb : Int) := by omega
  go_wp2_with (fail)
  go_region_held3 (fun _ => True) (first | exact trivial) (first | (go_at_call 219; refine (HV.out).mono ?_; rintro e w2 ⟨ds, c1, rfl, hr⟩; have HR := Lib.hid hr; clear hr))
  rcases Nat.eq_zero_or_pos k with hk0 | hk0
  · subst hk0
    obtain rfl : n = m := by have := HMK.out; omega
    have e3 : decide ((n : Int) < (n : Int)) = false := by simp
    obtain ⟨old, hold⟩ : ∃ old, w2.cell? ⟨g, n, none⟩ = some old := ⟨_, HR.out.2.2.2.2.1.cell n _ (List.getElem?_eq_getElem (by rw [over_length (by rw [HR.out.2.1]; have := HF.out; omega)]; have := HF.out; omega))⟩
    have hfz := HR.out.2.2.2.2.1.frozen n
    have HW := Lib.hid (show WB (w2.setCell ⟨g, n, none⟩ (.int .u64 (c1 : Int))) g (over full 0 (ds ++ [c1])) by
      have := HR.out.2.2.2.2.1.set_ n c1 HR.out.1
      rw [show n = 0 + ds.length by rw [HR.out.2.1]; omega] at this ⊢
      rwa [over_snoc c1 (by rw [HR.out.2.1]; have := HF.out; omega)] at this)
    have HN := Lib.hid (natNorm g 0 c' (ds ++ [c1]) (n + 1) (w2.setCell ⟨g, n, none⟩ (.int .u64 (c1 : Int))) (by simp [HR.out.2.1]) (by omega) hc1 (wb_cells HW.out (by simp [HR.out.2.1]; have := HF.out; omega)))
    have HV := Lib.hid (show natOf (ds ++ [c1]) = natOf xs + natOf ys by
      have := HR.out.2.2.2.1.2
      rw [List.take_of_length_le (by have := HXL.out; omega)] at this
      rw [natOf_snoc, HR.out.2.1, Nat.mul_comm]; exact this)
    go_wp2_with (fail)
    go_at_call 221
    refine HN.out.mono ?_
    rintro e w3 ⟨es, rfl, rfl, he, hN, hve⟩
    have HE := Lib.hid he; have HEN := Lib.hid hN; have HEV := Lib.hid hve; clear he hN hve
    go_wp2
    go_ret
    exact norm_end HM.out (Only.set_ (by have := HR.out.2.2.2.2.2; exact ⟨this.os, this.tape, this.output, this.size, this.block⟩) _ _) HW.out HF.out (by omega) (by simp [HR.out.2.1]; omega) HE.out HEN.out HEV.out HV.out
  · have e3 : decide ((n : Int) < (m : Int)) = true := by have := HMK.out; simp; omega
    have e3' : n < m := by have := HMK.out; omega
    have e4 : ¬ c' = n := by have := HMK.out; omega
    have e5 : ¬ cb = n := by have := HMK.out; omega
    have hon : Only g w1 w2 := by have := HR.out.2.2.2.2.2; exact ⟨this.os, this.tape, this.output, this.size, this.block⟩
    have HON := Lib.hid hon
    have HXC := Lib.hid (HSX.out.rest HB.out hon HR.out.2.2.2.2.1 HR.out.2.1 (by have := HF.out; omega))
    have HSEP := Lib.hid (HSX.out.sep (n := n) HKX.out hon)
    have HC1 := Lib.hid (show c1 ≤ 1 from HR.out.2.2.2.1.1)
    clear hon
    have HVW := Lib.hid (vAddVW g n (c' - n) bx0 (ox0 + n) (cb - n) c1 (over full 0 ds) (xs.drop n) (m - n) w2.drew (by omega) (by have := HMK.out; omega) (by omega) (by omega) (show WB w2.drew g (over full 0 ds) from HR.out.2.2.2.2.1) (by rw [over_length (by rw [HR.out.2.1]; have := HF.out; omega)]; have := HF.out; omega) (fun x hx => HSX.out.1 x (List.mem_of_mem_drop hx)) (show ∀ j (hj : j < (xs.drop n).length), w2.drew.cell? ⟨bx0, ox0 + n + j, none⟩ = some (.int .u64 (((xs.drop n)[j] : Nat) : Int)) from HXC.out) (show (bx0 ≠ g ∧ ∃ cs, Blk w2.drew bx0 221 cs) ∨ (g = bx0 ∧ n = ox0 + n) from HSEP.out) (by rw [List.length_drop, HXL.out]) HC1.out)
    go_wp2
    go_region_held3 (fun _ => True) (first | exact trivial) (first | (go_at_call 220; refine (HVW.out).mono ?_; rintro e w3 ⟨es, c2, rfl, hr2⟩; have HR2 := Lib.hid hr2; clear hr2))
    have HFL := Lib.hid (show ds.length + es.length = m by rw [HR.out.2.1, HR2.out.2.1]; omega)
    have HW3 := Lib.hid (show WB w3 g (over full 0 (ds ++ es)) by
      have := HR2.out.2.2.2.2.1
      rwa [show n = 0 + ds.length by rw [HR.out.2.1]; omega, over_join (by have := HFL.out; have := HF.out; omega)] at this)
    obtain ⟨old, hold⟩ : ∃ old, w3.cell? ⟨g, m, none⟩ = some old := ⟨_, HW3.out.cell m _ (List.getElem?_eq_getElem (by rw [over_length (by rw [List.length_append]; have := HFL.out; have := HF.out; omega)]; have := HF.out; omega))⟩
    have hfz := HW3.out.frozen m
    have HW := Lib.hid (show WB (w3.setCell ⟨g, m, none⟩ (.int .u64 (c2 : Int))) g (over full 0 (ds ++ es ++ [c2])) by
      have := HW3.out.set_ m c2 HR2.out.1
      rw [show m = 0 + (ds ++ es).length by rw [List.length_append, HFL.out]; omega] at this ⊢
      rwa [over_snoc c2 (by rw [List.length_append, HFL.out]; have := HF.out; omega)] at this)
    have HN := Lib.hid (natNorm g 0 c' (ds ++ es ++ [c2]) (m + 1) (w3.setCell ⟨g, m, none⟩ (.int .u64 (c2 : Int))) (by rw [List.length_append, List.length_append, HFL.out]; rfl) (by omega) hc1 (wb_cells HW.out (by rw [List.length_append, List.length_append, HFL.out]; have := HF.out; simp; omega)))
    have HV := Lib.hid (show natOf (ds ++ es ++ [c2]) = natOf xs + natOf ys from addV_end HXL.out HMK.out HR.out.2.1 (by rw [HR2.out.2.1]; have := HMK.out; omega) HR.out.2.2.2.1.2 (by have := HR2.out.2.2.2.1.1; rwa [show m - n = k by have := HMK.out; omega] at this))
    have HO3 := Lib.hid (show Only g w1 w3 by have := HR2.out.2.2.2.2.2; exact HON.out.trans' ⟨this.os, this.tape, this.output, this.size, this.block⟩)
    go_wp2_with (fail)
    go_at_call 221
    refine HN.out.mono ?_
    rintro e w4 ⟨fs, rfl, rfl, he, hN, hve⟩
    have HE := Lib.hid he; have HEN := Lib.hid hN; have HEV := Lib.hid hve; clear he hN hve
    go_wp2
    go_ret
    exact norm_end HM.out (HO3.out.set_ _ _) HW.out HF.out (by omega) (by rw [List.length_append, List.length_append, HFL.out]; simp; omega) HE.out HEN.out HEV.out HV.out

set_option maxRecDepth 100000 in
set_option maxHeartbeats 1000000 in
theorem gSubA (A : Option Addr) (n0 c gz : Nat) (zs : List Nat) (B D : Option Addr) (cb cd : Nat) (xs ys : List Nat) (n k m : Nat) (hmk : m = n + k) (w : World) (hz : NatV w A c gz zs) (hx : Opd w gz c B cb xs) (hy : Opd w gz c D cd ys) (hm : xs.length = m) (hn : ys.length = n) (hmx : m ≤ 100000) (h0 : 0 < n) (hge : natOf ys ≤ natOf xs) :
    Calls Tryz.prog 176 #[.slice A n0 c, .slice B m cb, .slice D n cd] w (RetN gz (natOf xs - natOf ys) w) := by
  have hnx : xs ≠ [] := by intro e; subst e; simp at hm; omega
  have hny : ys ≠ [] := by intro e; subst e; simp at hn; omega
  have e0 : decide ((m : Int) < (n : Int)) = false := by simp; omega
  have e1 : ((m : Int) == 0) = false := by simp; omega
  have e2 : ((n : Int) == 0) = false := by simp; omega
  have H := Lib.hid (gMake A n0 c gz zs (m) w hz (by omega) (by omega))
  skip
  have lcb := hx.2.1; have lcd := hy.2.1
  rw [hm] at lcb; rw [hn] at lcd
  have HX := Lib.hid hx; have HY := Lib.hid hy; have HXL := Lib.hid hm; have HYL := Lib.hid hn
  have HMK := Lib.hid hmk
  have hle : n ≤ m := by omega
  clear hz hx hy hm hn hmk
  obtain ⟨bx0, ox0, hB, _⟩ := HX.out.2.2 hnx
  subst hB
  obtain ⟨by0, oy0, hB, _⟩ := HY.out.2.2 hny
  subst hB
  go_enter Tryz.func176, Tryz.ntmps176
  go_wp2_with (fail)
  go_at_call 218
  refine H.out.mono ?_
  rintro e w1 ⟨g, c', full, rfl, hc, hb, hl, hmd⟩
  obtain ⟨hc1, hc2⟩ := hc
  obtain ⟨bx, ox, hA, hsx⟩ := HX.out.src hnx hmd
  injection hA with hA; injection hA with t1 t2 t3; subst t1; subst t2; clear t3
  obtain ⟨by_, oy, hA, hsy⟩ := HY.out.src hny hmd
  injection hA with hA; injection hA with t1 t2 t3; subst t1; subst t2; clear t3
  have hkx := HX.out.blk hnx hmd
  have HSX := Lib.hid hsx; have HSY := Lib.hid hsy; have HB := Lib.hid hb; have HF := Lib.hid hl; have HM := Lib.hid hmd; have HKX := Lib.hid hkx
  clear hsx hsy hb hl hmd hkx
  have HV := Lib.hid (vSubVV g 0 c' bx0 ox0 cb by0 oy0 cd full (xs.take n) ys n w1.drew (by omega) (show WB w1.drew g full from HB.out) (by have := HF.out; omega) (show Src w1.drew g 0 bx0 ox0 (xs.take n) from HSX.out.take n) (take_ne HXL.out (by omega)) (show Src w1.drew g 0 by0 oy0 ys from HSY.out) HYL.out)
  have i1 : (n : Int) ≤ (c' : Int) := by omega
  have i2 : (n : Int) ≤ (cb : Int) := by omega
  have i3 : (n : Int) ≤ (cd : Int) := by omega
  have i4 : (n : Int) ≤ (m : Int) := by omega
  have i5 : (m : Int) ≤ (c' : Int) := by omega
  have i6 : (m : Int) ≤ (cb : Int) := by omega
  go_wp2_with (fail)
  go_region_held3 (fun _ => True) (first | exact trivial) (first | (go_at_call 222; refine (HV.out).mono ?_; rintro e w2 ⟨ds, c1, rfl, hr⟩; have HR := Lib.hid hr; clear hr))
  rcases Nat.eq_zero_or_pos k with hk0 | hk0
  · subst hk0
    obtain rfl : n = m := by have := HMK.out; omega
    have e3 : decide ((n : Int) < (n : Int)) = false := by simp
    have hc0 : c1 = 0 := by
      have h := HR.out.2.2.2.1.2
      rw [List.take_of_length_le (by have := HXL.out; omega)] at h
      exact noBorrow (xs := xs) (ys := ys) HR.out.2.1 HR.out.2.2.1 h hge HR.out.2.2.2.1.1
    subst hc0
    have HW : Hid (WB w2 g (over full 0 ds)) := HR.out.2.2.2.2.1
    have HN := Lib.hid (natNorm g 0 c' ds n w2 HR.out.2.1 (by omega) hc1 (wb_cells HW.out (by rw [HR.out.2.1]; have := HF.out; omega)))
    have HV := Lib.hid (show natOf ds = natOf xs - natOf ys by
      have := HR.out.2.2.2.1.2
      rw [List.take_of_length_le (by have := HXL.out; omega)] at this
      omega)
    go_wp2_with (fail)
    go_at_call 221
    refine HN.out.mono ?_
    rintro e w3 ⟨es, rfl, rfl, he, hN, hve⟩
    have HE := Lib.hid he; have HEN := Lib.hid hN; have HEV := Lib.hid hve; clear he hN hve
    go_wp2
    go_ret
    exact norm_end HM.out (by have := HR.out.2.2.2.2.2; exact ⟨this.os, this.tape, this.output, this.size, this.block⟩) HW.out HF.out (by omega) (by rw [HR.out.2.1]; omega) HE.out HEN.out HEV.out HV.out
  · have e3 : decide ((n : Int) < (m : Int)) = true := by have := HMK.out; simp; omega
    have e3' : n < m := by have := HMK.out; omega
    have e4 : ¬ c' = n := by have := HMK.out; omega
    have e5 : ¬ cb = n := by have := HMK.out; omega
    have hon : Only g w1 w2 := by have := HR.out.2.2.2.2.2; exact ⟨this.os, this.tape, this.output, this.size, this.block⟩
    have HON := Lib.hid hon
    have HXC := Lib.hid (HSX.out.rest HB.out hon HR.out.2.2.2.2.1 HR.out.2.1 (by have := HF.out; omega))
    have HSEP := Lib.hid (HSX.out.sep (n := n) HKX.out hon)
    have HC1 := Lib.hid (show c1 ≤ 1 from HR.out.2.2.2.1.1)
    clear hon
    have HVW := Lib.hid (vSubVW g n (c' - n) bx0 (ox0 + n) (cb - n) c1 (over full 0 ds) (xs.drop n) (m - n) w2.drew (by omega) (by have := HMK.out; omega) (by omega) (by omega) (show WB w2.drew g (over full 0 ds) from HR.out.2.2.2.2.1) (by rw [over_length (by rw [HR.out.2.1]; have := HF.out; omega)]; have := HF.out; omega) (fun x hx => HSX.out.1 x (List.mem_of_mem_drop hx)) (show ∀ j (hj : j < (xs.drop n).length), w2.drew.cell? ⟨bx0, ox0 + n + j, none⟩ = some (.int .u64 (((xs.drop n)[j] : Nat) : Int)) from HXC.out) (show (bx0 ≠ g ∧ ∃ cs, Blk w2.drew bx0 221 cs) ∨ (g = bx0 ∧ n = ox0 + n) from HSEP.out) (by rw [List.length_drop, HXL.out]) HC1.out)
    go_wp2
    go_region_held3 (fun _ => True) (first | exact trivial) (first | (go_at_call 223; refine (HVW.out).mono ?_; rintro e w3 ⟨es, c2, rfl, hr2⟩; have HR2 := Lib.hid hr2; clear hr2))
    have HFL := Lib.hid (show ds.length + es.length = m by rw [HR.out.2.1, HR2.out.2.1]; omega)
    have HDE := Lib.hid (subV_end HXL.out HMK.out HR.out.2.1 (by rw [HR2.out.2.1]; have := HMK.out; omega) HR.out.2.2.2.1.2 (by have := HR2.out.2.2.2.1.1; rwa [show m - n = k by have := HMK.out; omega] at this))
    have hc0 : c2 = 0 := noBorrow (ds := ds ++ es) (xs := xs) (ys := ys) (n := m) (by rw [List.length_append, HFL.out]) (by intro x hx; rcases List.mem_append.1 hx with h | h; exact HR.out.2.2.1 x h; exact HR2.out.2.2.1 x h) HDE.out hge HR2.out.2.2.2.1.2
    subst hc0
    have HW := Lib.hid (show WB w3 g (over full 0 (ds ++ es)) by
      have := HR2.out.2.2.2.2.1
      rwa [show n = 0 + ds.length by rw [HR.out.2.1]; omega, over_join (by have := HFL.out; have := HF.out; omega)] at this)
    have HN := Lib.hid (natNorm g 0 c' (ds ++ es) m w3 (by rw [List.length_append, HFL.out]) (by omega) hc1 (wb_cells HW.out (by rw [List.length_append, HFL.out]; have := HF.out; omega)))
    have HV := Lib.hid (show natOf (ds ++ es) = natOf xs - natOf ys by have := HDE.out; omega)
    have HO3 := Lib.hid (show Only g w1 w3 by have := HR2.out.2.2.2.2.2; exact HON.out.trans' ⟨this.os, this.tape, this.output, this.size, this.block⟩)
    go_wp2_with (fail)
    go_at_call 221
    refine HN.out.mono ?_
    rintro e w4 ⟨fs, rfl, rfl, he, hN, hve⟩
    have HE := Lib.hid he; have HEN := Lib.hid hN; have HEV := Lib.hid hve; clear he hN hve
    go_wp2
    go_ret
    exact norm_end HM.out HO3.out HW.out HF.out (by omega) (by rw [List.length_append, HFL.out]; omega) HE.out HEN.out HEV.out HV.out

set_option maxRecDepth 100000 in
theorem gAdd0 (A : Option Addr) (n0 c gz : Nat) (zs : List Nat) (B D : Option Addr) (cb cd : Nat) (w : World) (hz : NatV w A c gz zs) :
    Calls Tryz.prog 174 #[.slice A n0 c, .slice B 0 cb, .slice D 0 cd] w (RetN gz 0 w) := by
  have HR := Lib.hid (retN_zero hz)
  rcases hz with ⟨rfl, rfl, _⟩ | ⟨rfl, hc, _⟩
  all_goals
    go_enter Tryz.func174, Tryz.ntmps174
    go_wp2
    go_ret
    exact HR.out
set_option maxRecDepth 100000 in
theorem gSub0 (A : Option Addr) (n0 c gz : Nat) (zs : List Nat) (B D : Option Addr) (cb cd : Nat) (w : World) (hz : NatV w A c gz zs) :
    Calls Tryz.prog 176 #[.slice A n0 c, .slice B 0 cb, .slice D 0 cd] w (RetN gz 0 w) := by
  have HR := Lib.hid (retN_zero hz)
  rcases hz with ⟨rfl, rfl, _⟩ | ⟨rfl, hc, _⟩
  all_goals
    go_enter Tryz.func176, Tryz.ntmps176
    go_wp2
    go_ret
    exact HR.out
set_option maxRecDepth 100000 in
theorem gAddL (A : Option Addr) (n0 c gz : Nat) (zs : List Nat) (B D : Option Addr) (cb cd : Nat) (xs : List Nat) (m : Nat) (w : World) (hz : NatV w A c gz zs) (hx : Opd w gz c B cb xs) (hm : xs.length = m) (hmx : m ≤ 100000) (hN : Norm xs) (h0 : 0 < m) :
    Calls Tryz.prog 174 #[.slice A n0 c, .slice B m cb, .slice D 0 cd] w (RetN gz (natOf xs) w) := by
  have H := Lib.hid (gSet A n0 c gz zs B cb xs m w hz hx hm hmx hN)
  clear hz hx hm
  have e0 : decide ((m : Int) < 0) = false := by simp
  have e1 : ((m : Int) == 0) = false := by simp; omega
  go_enter Tryz.func174, Tryz.ntmps174
  go_wp2_with (go_at_call 217; refine H.out.mono ?_; rintro e w' ⟨A', c', g', ws', rfl, hr⟩; have HR := Lib.hid hr; clear hr)
  go_ret
  exact ⟨A', c', g', ws', rfl, HR.out⟩
set_option maxRecDepth 100000 in
theorem gSubL (A : Option Addr) (n0 c gz : Nat) (zs : List Nat) (B D : Option Addr) (cb cd : Nat) (xs : List Nat) (m : Nat) (w : World) (hz : NatV w A c gz zs) (hx : Opd w gz c B cb xs) (hm : xs.length = m) (hmx : m ≤ 100000) (hN : Norm xs) (h0 : 0 < m) :
    Calls Tryz.prog 176 #[.slice A n0 c, .slice B m cb, .slice D 0 cd] w (RetN gz (natOf xs) w) := by
  have H := Lib.hid (gSet A n0 c gz zs B cb xs m w hz hx hm hmx hN)
  clear hz hx hm
  have e0 : decide ((m : Int) < 0) = false := by simp
  have e1 : ((m : Int) == 0) = false := by simp; omega
  go_enter Tryz.func176, Tryz.ntmps176
  go_wp2_with (go_at_call 217; refine H.out.mono ?_; rintro e w' ⟨A', c', g', ws', rfl, hr⟩; have HR := Lib.hid hr; clear hr)
  go_ret
  exact ⟨A', c', g', ws', rfl, HR.out⟩
theorem gAddLe (A : Option Addr) (n0 c gz : Nat) (zs : List Nat) (B D : Option Addr) (cb cd : Nat) (xs ys : List Nat) (m n : Nat) (w : World) (hz : NatV w A c gz zs) (hx : Opd w gz c B cb xs) (hy : Opd w gz c D cd ys) (hm : xs.length = m) (hn : ys.length = n) (hmx : m ≤ 100000) (hNx : Norm xs) (hle : n ≤ m) :
    Calls Tryz.prog 174 #[.slice A n0 c, .slice B m cb, .slice D n cd] w (RetN gz (natOf xs + natOf ys) w) := by
  rcases Nat.eq_zero_or_pos n with h | h
  · subst h
    have e : ys = [] := List.eq_nil_of_length_eq_zero hn
    rw [show natOf xs + natOf ys = natOf xs by rw [e]; simp [natOf]]
    rcases Nat.eq_zero_or_pos m with k | k
    · subst k
      rw [show natOf xs = 0 by rw [List.eq_nil_of_length_eq_zero hm]; rfl]
      exact gAdd0 A n0 c gz zs B D cb cd w hz
    · exact gAddL A n0 c gz zs B D cb cd xs m w hz hx hm hmx hNx k
  · obtain ⟨k, rfl⟩ : ∃ k, m = n + k := ⟨m - n, by omega⟩
    exact gAddA A n0 c gz zs B D cb cd xs ys n k _ rfl w hz hx hy hm hn hmx h
theorem gSubN (A : Option Addr) (n0 c gz : Nat) (zs : List Nat) (B D : Option Addr) (cb cd : Nat) (xs ys : List Nat) (m n : Nat) (w : World) (hz : NatV w A c gz zs) (hx : Opd w gz c B cb xs) (hy : Opd w gz c D cd ys) (hm : xs.length = m) (hn : ys.length = n) (hmx : m ≤ 100000) (hNx : Norm xs) (hNy : Norm ys) (hge : natOf ys ≤ natOf xs) :
    Calls Tryz.prog 176 #[.slice A n0 c, .slice B m cb, .slice D n cd] w (RetN gz (natOf xs - natOf ys) w) := by
  have hle : n ≤ m := by
    rcases Nat.lt_or_ge m n with h | h
    · have := natOf_lt_len hNy hx.1 (by omega : xs.length < ys.length); omega
    · exact h
  rcases Nat.eq_zero_or_pos n with h | h
  · subst h
    have e : ys = [] := List.eq_nil_of_length_eq_zero hn
    rw [show natOf xs - natOf ys = natOf xs by rw [e]; simp [natOf]]
    rcases Nat.eq_zero_or_pos m with k | k
    · subst k
      rw [show natOf xs = 0 by rw [List.eq_nil_of_length_eq_zero hm]; rfl]
      exact gSub0 A n0 c gz zs B D cb cd w hz
    · exact gSubL A n0 c gz zs B D cb cd xs m w hz hx hm hmx hNx k
  · obtain ⟨k, rfl⟩ : ∃ k, m = n + k := ⟨m - n, by omega⟩
    exact gSubA A n0 c gz zs B D cb cd xs ys n k _ rfl w hz hx hy hm hn hmx h hge
set_option maxRecDepth 100000 in
theorem gAddN (A : Option Addr) (n0 c gz : Nat) (zs : List Nat) (B D : Option Addr) (cb cd : Nat) (xs ys : List Nat) (m n : Nat) (w : World) (hz : NatV w A c gz zs) (hx : Opd w gz c B cb xs) (hy : Opd w gz c D cd ys) (hm : xs.length = m) (hn : ys.length = n) (hmx : m ≤ 100000) (hnx : n ≤ 100000) (hNx : Norm xs) (hNy : Norm ys) :
    Calls Tryz.prog 174 #[.slice A n0 c, .slice B m cb, .slice D n cd] w (RetN gz (natOf xs + natOf ys) w) := by
  by_cases hle : n ≤ m
  · exact gAddLe A n0 c gz zs B D cb cd xs ys m n w hz hx hy hm hn hmx hNx hle
  · have H := Lib.hid (gAddLe A n0 c gz zs D B cd cb ys xs n m w hz hy hx hn hm hnx hNy (by omega))
    rw [Nat.add_comm] at H
    have e0 : decide ((m : Int) < (n : Int)) = true := by simp; omega
    clear hz hx hy
    go_enter Tryz.func174, Tryz.ntmps174
    go_wp2_with (fail)
    go_at_call 174
    refine H.out.mono ?_
    rintro e w1 ⟨A1, c1, g1, ws, rfl, hR⟩
    have HR := Lib.hid hR; clear hR
    go_wp2
    go_ret
    exact ⟨A1, c1, g1, ws, rfl, HR.out⟩
end Go.Proofs.YtfafiahefjimdaaGreatDoor
