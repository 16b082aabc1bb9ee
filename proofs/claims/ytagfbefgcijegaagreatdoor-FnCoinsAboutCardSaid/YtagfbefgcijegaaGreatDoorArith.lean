/-
  Contracts of big.Int's Add on a fresh receiver, for numbers of at most one word.
-/
import Derived.Test.YtagfbefgcijegaaGreatDoorRead
import Derived.Test.YtagfbefgcijegaaGreatDoorNat3
namespace Go.Proofs.YtagfbefgcijegaaGreatDoor
open Go Go.RowKit

theorem signAdd {s : Bool} {xs ys ws : List Nat} (h : natOf ws = natOf xs + natOf ys) : bigVal s xs + bigVal s ys = bigVal s ws := by cases s <;> simp [bigVal, h] <;> omega
theorem signSub {s : Bool} {xs ys ws : List Nat} (hge : natOf ys ≤ natOf xs) (h : natOf ws = natOf xs - natOf ys) : bigVal s xs + bigVal (!s) ys = bigVal s ws := by cases s <;> simp [bigVal, h] <;> omega
theorem signSub' {s : Bool} {xs ys ws : List Nat} (hge : natOf xs ≤ natOf ys) (h : natOf ws = natOf ys - natOf xs) : bigVal s xs + bigVal (!s) ys = bigVal (!s) ws := by cases s <;> simp [bigVal, h] <;> omega
theorem sign0 {s : Bool} {ws : List Nat} (h : ws.length = 0) : bigVal s ws = bigVal false ws := by
  rw [List.eq_nil_of_length_eq_zero h]; cases s <;> simp [bigVal, natOf]

/-- The end of Add and Sub: the receiver's words are there, its sign is set. -/
theorem arithEnd {b : Nat} {w w1 : World} {z : Int} {s : Bool} {A : Option Addr} {c : Nat} {ws : List Nat} (hb : Blk w b 130 [.bool false, .slice none 0 0])
    (hE : Ext w w1) (hl : ws.length ≤ c) (hw : Words w1 A ws) (hN : Norm ws) (hz : z = bigVal s ws) (t : Bool) (ht : t = (decide (0 < ws.length) && s)) :
    BigAt ((w1.setCell ⟨b, 1, none⟩ (.slice A ws.length c)).setCell ⟨b, 0, none⟩ (.bool t)) b z ∧ Only b w ((w1.setCell ⟨b, 1, none⟩ (.slice A ws.length c)).setCell ⟨b, 0, none⟩ (.bool t)) := by
  have hb1 := hb.ext hE
  refine ⟨⟨A, c, ws, t, (hb1.set_ 1 _).set_ 0 _, (hw.set_ (by intro a ha hn; subst ha; exact words_ne hw hn hb1) 1 _).set_ (by intro a ha hn; subst ha; exact words_ne hw hn hb1) 0 _, hl, hN, ?_, ?_⟩, ((Only.of_ext hE).set_ 1 _).set_ 0 _⟩
  · intro e; subst e; subst ht; rfl
  · rw [hz, ht]
    rcases Nat.eq_zero_or_pos ws.length with e | e
    · rw [sign0 e]; simp [e]
    · simp [e]

theorem signAddS {s : Bool} {xs ys ws : List Nat} (h : natOf ws = natOf xs + natOf ys) : bigVal s xs - bigVal (!s) ys = bigVal s ws := by cases s <;> simp [bigVal, h] <;> omega
theorem signSubS {s : Bool} {xs ys ws : List Nat} (hge : natOf ys ≤ natOf xs) (h : natOf ws = natOf xs - natOf ys) : bigVal s xs - bigVal s ys = bigVal s ws := by cases s <;> simp [bigVal, h] <;> omega
theorem signSubS' {s : Bool} {xs ys ws : List Nat} (hge : natOf xs ≤ natOf ys) (h : natOf ws = natOf ys - natOf xs) : bigVal s xs - bigVal s ys = bigVal (!s) ws := by cases s <;> simp [bigVal, h] <;> omega

/-- What Add and Sub are handed. -/
structure TwoIn (w : World) (b x x' : Nat) (A B : Option Addr) (c d : Nat) (xs ys : List Nat) (nx ny : Bool) : Prop where
  a0 : w.cell? ⟨x, 0, none⟩ = some (.bool nx)
  a1 : w.cell? ⟨x, 1, none⟩ = some (.slice A xs.length c)
  b0 : w.cell? ⟨x', 0, none⟩ = some (.bool ny)
  b1 : w.cell? ⟨x', 1, none⟩ = some (.slice B ys.length d)
  hb : Blk w b 130 [.bool false, .slice none 0 0]
  hxw : Words w A xs
  hyw : Words w B ys
  hxN : Norm xs
  hyN : Norm ys
  hx1 : xs.length ≤ 1
  hy1 : ys.length ≤ 1
  hxl : xs.length ≤ c
  hyl : ys.length ≤ d
  hxb : x ≠ b
  hyb : x' ≠ b

set_option maxRecDepth 100000 in
set_option maxHeartbeats 1000000 in
theorem intAdd_same (s : Bool) {w : World} {b x x' : Nat} {A B : Option Addr} {c d : Nat} {xs ys : List Nat} (H : TwoIn w b x x' A B c d xs ys s s) :
    Calls Tryz.prog 197 #[.pointer (some ⟨b, 0, none⟩), .pointer (some ⟨x, 0, none⟩), .pointer (some ⟨x', 0, none⟩)] w (RetInto b (bigVal s xs + bigVal s ys) w) := by
  obtain ⟨a0, a1, b0, b1, hb, hxw, hyw, hxN, hyN, hx1, hy1, hxl, hyl, hxb, hyb⟩ := H
  have z0 : w.cell? ⟨b, 0, none⟩ = some (.bool false) := (hb.cell 0).trans rfl
  have z1 : w.cell? ⟨b, 1, none⟩ = some (.slice none 0 0) := (hb.cell 1).trans rfl
  have HX := Lib.hid hxw; have HY := Lib.hid hyw; have HB := Lib.hid hb
  clear hb hxw hyw
  cases s
  all_goals
    go_enter Tryz.func197, Tryz.ntmps197
    go_wp2
    go_quiet (fail)
    go_wp2
    go_region_law (first | (go_simp; go_at_call 198; refine (natAdd1 A B c d xs ys _ (by exact HX.out) (by exact HY.out) hxN hyN hx1 hy1 hxl hyl).mono ?_; rintro e w1 ⟨A', c', ws', rfl, hn⟩; have hE : Ext w w1 := Ext.undrewN hn.2.2.2.2; have z1' := hE.cell' z1; have z0' := hE.cell' z0; have fz1 := (HB.out.ext hE).frozen 1; have fz0 := (HB.out.ext hE).frozen 0; have HN := Lib.hid hn; clear hn; have HE := Lib.hid hE; clear hE))
    all_goals go_wp2
    all_goals go_ret
    all_goals exact ⟨rfl, arithEnd HB.out HE.out HN.out.1 HN.out.2.1 HN.out.2.2.1 (signAdd (s := _) HN.out.2.2.2.1) _ (by simp [*])⟩

set_option maxRecDepth 100000 in
set_option maxHeartbeats 1000000 in
theorem intAdd_ge (s : Bool) {w : World} {b x x' : Nat} {A B : Option Addr} {c d : Nat} {xs ys : List Nat} (H : TwoIn w b x x' A B c d xs ys s (!s)) (hge : natOf ys ≤ natOf xs) :
    Calls Tryz.prog 197 #[.pointer (some ⟨b, 0, none⟩), .pointer (some ⟨x, 0, none⟩), .pointer (some ⟨x', 0, none⟩)] w (RetInto b (bigVal s xs + bigVal (!s) ys) w) := by
  obtain ⟨a0, a1, b0, b1, hb, hxw, hyw, hxN, hyN, hx1, hy1, hxl, hyl, hxb, hyb⟩ := H
  have z0 : w.cell? ⟨b, 0, none⟩ = some (.bool false) := (hb.cell 0).trans rfl
  have z1 : w.cell? ⟨b, 1, none⟩ = some (.slice none 0 0) := (hb.cell 1).trans rfl
  have HX := Lib.hid hxw; have HY := Lib.hid hyw; have HB := Lib.hid hb
  have HC : Hid (∀ W, Words W A xs → Words W B ys → Calls Tryz.prog 196 #[.slice A xs.length c, .slice B ys.length d] W (RetQ (.int .i64 (cmpZ (natOf xs) (natOf ys))) W)) := fun W h1 h2 => natCmp A B c d xs ys W h1 h2 hxN hyN (by omega) (by omega)
  have hc : 0 ≤ cmpZ (natOf xs) (natOf ys) := by unfold cmpZ; rw [if_neg (by omega)]; split <;> omega
  clear hb hxw hyw
  cases s
  all_goals
    go_enter Tryz.func197, Tryz.ntmps197
    go_wp2
    go_quiet (fail)
    go_wp2
    go_quiet ((go_at_call 196; exact quietQ (HC.out _ (by exact HX.out) (by exact HY.out))))
    go_wp2
    go_region_law (first | (go_simp; go_at_call 199; refine (natSub1 A B c d xs ys _ (by exact HX.out) (by exact HY.out) hxN hyN hx1 hy1 hxl hyl hge).mono ?_; rintro e w1 ⟨A', c', ws', rfl, hn⟩; have hE : Ext w w1 := Ext.undrewN hn.2.2.2.2; have z1' := hE.cell' z1; have z0' := hE.cell' z0; have fz1 := (HB.out.ext hE).frozen 1; have fz0 := (HB.out.ext hE).frozen 0; have HN := Lib.hid hn; clear hn; have HE := Lib.hid hE; clear hE))
    all_goals go_wp2
    all_goals go_ret
    all_goals exact ⟨rfl, arithEnd HB.out HE.out HN.out.1 HN.out.2.1 HN.out.2.2.1 (signSub (s := _) hge HN.out.2.2.2.1) _ (by simp [*])⟩

set_option maxRecDepth 100000 in
set_option maxHeartbeats 1000000 in
theorem intAdd_lt (s : Bool) {w : World} {b x x' : Nat} {A B : Option Addr} {c d : Nat} {xs ys : List Nat} (H : TwoIn w b x x' A B c d xs ys s (!s)) (hlt : natOf xs < natOf ys) :
    Calls Tryz.prog 197 #[.pointer (some ⟨b, 0, none⟩), .pointer (some ⟨x, 0, none⟩), .pointer (some ⟨x', 0, none⟩)] w (RetInto b (bigVal s xs + bigVal (!s) ys) w) := by
  obtain ⟨a0, a1, b0, b1, hb, hxw, hyw, hxN, hyN, hx1, hy1, hxl, hyl, hxb, hyb⟩ := H
  have z0 : w.cell? ⟨b, 0, none⟩ = some (.bool false) := (hb.cell 0).trans rfl
  have z1 : w.cell? ⟨b, 1, none⟩ = some (.slice none 0 0) := (hb.cell 1).trans rfl
  have HX := Lib.hid hxw; have HY := Lib.hid hyw; have HB := Lib.hid hb
  have HC : Hid (∀ W, Words W A xs → Words W B ys → Calls Tryz.prog 196 #[.slice A xs.length c, .slice B ys.length d] W (RetQ (.int .i64 (cmpZ (natOf xs) (natOf ys))) W)) := fun W h1 h2 => natCmp A B c d xs ys W h1 h2 hxN hyN (by omega) (by omega)
  have hc : cmpZ (natOf xs) (natOf ys) < 0 := by unfold cmpZ; rw [if_pos (by omega)]; omega
  have hge : natOf xs ≤ natOf ys := by omega
  clear hlt
  clear hb hxw hyw
  cases s
  all_goals
    go_enter Tryz.func197, Tryz.ntmps197
    go_wp2
    go_quiet (fail)
    go_wp2
    go_quiet ((go_at_call 196; exact quietQ (HC.out _ (by exact HX.out) (by exact HY.out))))
    go_wp2
    go_region_law (first | (go_simp; go_at_call 199; refine (natSub1 B A d c ys xs _ (by exact HY.out) (by exact HX.out) hyN hxN hy1 hx1 hyl hxl hge).mono ?_; rintro e w1 ⟨A', c', ws', rfl, hn⟩; have hE : Ext w w1 := Ext.undrewN hn.2.2.2.2; have z1' := hE.cell' z1; have z0' := hE.cell' z0; have fz1 := (HB.out.ext hE).frozen 1; have fz0 := (HB.out.ext hE).frozen 0; have HN := Lib.hid hn; clear hn; have HE := Lib.hid hE; clear hE))
    all_goals go_wp2
    all_goals go_ret
    all_goals exact ⟨rfl, arithEnd HB.out HE.out HN.out.1 HN.out.2.1 HN.out.2.2.1 (signSub' (s := _) hge HN.out.2.2.2.1) _ (by simp [*])⟩

theorem intAdd (b : Nat) (u v : Value) (y z : Int) (w : World) (hu : IsBig w u y) (hv : IsBig w v z) (hb : Blk w b 130 [.bool false, .slice none 0 0]) (hy : y.natAbs < B64) (hz : z.natAbs < B64)
    (hnu : u ≠ .pointer (some ⟨b, 0, none⟩)) (hnv : v ≠ .pointer (some ⟨b, 0, none⟩)) :
    Calls Tryz.prog 197 #[.pointer (some ⟨b, 0, none⟩), u, v] w (RetInto b (y + z) w) := by
  obtain ⟨x, rfl, A, c, xs, nx, ha, hxw, hxl, hxN, hx0, rfl⟩ := hu
  obtain ⟨x', rfl, B, d, ys, ny, hb', hyw, hyl, hyN, hy0, rfl⟩ := hv
  rw [natAbs_bigVal] at hy hz
  have H : TwoIn w b x x' A B c d xs ys nx ny := ⟨(ha.cell 0).trans rfl, (ha.cell 1).trans rfl, (hb'.cell 0).trans rfl, (hb'.cell 1).trans rfl, hb, hxw, hyw, hxN, hyN, len_le_one hxN hy, len_le_one hyN hz, hxl, hyl, fun e => hnu (by rw [e]), fun e => hnv (by rw [e])⟩
  by_cases hs : nx = ny
  · subst hs
    exact intAdd_same _ H
  · obtain rfl : ny = !nx := by cases nx <;> cases ny <;> simp_all
    exact if hge : natOf ys ≤ natOf xs then intAdd_ge _ H hge else intAdd_lt _ H (by omega)

end Go.Proofs.YtagfbefgcijegaaGreatDoor
