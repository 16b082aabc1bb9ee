/-
  Contracts of big.Int's Add on a fresh receiver, for numbers of at most one word.
  Contracts of big.Int's Sub on a fresh receiver, for numbers of at most one word.
  Contracts of cosmosmath.Int's arithmetic, for numbers of at most one word.
  Contracts of coins one by one: impl.coin, impl.backCoin.
  Contracts of types.Coin's methods on one coin; Add of two coins of one denomination.
-/
import Derived.Test.YtfafiahefjimdaaGreatDoorGA
import Derived.Deep.RegionLaw
namespace Go.Proofs.YtfafiahefjimdaaGreatDoor
open Go Go.RowKit

theorem signAdd {s : Bool} {xs ys ws : List Nat} (h : natOf ws = natOf xs + natOf ys) : bigVal s xs + bigVal s ys = bigVal s ws := by cases s <;> simp [bigVal, h] <;> omega
theorem signSub {s : Bool} {xs ys ws : List Nat} (hge : natOf ys ≤ natOf xs) (h : natOf ws = natOf xs - natOf ys) : bigVal s xs + bigVal (!s) ys = bigVal s ws := by cases s <;> simp [bigVal, h] <;> omega
theorem signSub' {s : Bool} {xs ys ws : List Nat} (hge : natOf xs ≤ natOf ys) (h : natOf ws = natOf ys - natOf xs) : bigVal s xs + bigVal (!s) ys = bigVal (!s) ws := by cases s <;> simp [bigVal, h] <;> omega
theorem sign0 {s : Bool} {ws : List Nat} (h : ws.length = 0) : bigVal s ws = bigVal false ws := by
  rw [List.eq_nil_of_length_eq_zero h]; cases s <;> simp [bigVal, natOf]

/-- The end of Add and Sub: the receiver's words are there, its sign is set. -/
theorem arithEnd {b : Nat} {w w1 : World} {z : Int} {s : Bool} {A : Option Addr} {c : Nat} {ws : List Nat} (hb : Blk w b 173 [.bool false, .slice none 0 0])
    (hE : Ext w w1) (hl : ws.length ≤ c) (hw : Words w1 A ws) (hN : Norm ws) (hz : z = bigVal s ws) (t : Bool) (ht : t = (decide (0 < ws.length) && s)) :
    BigAt ((w1.setCell ⟨b, 1, none⟩ (.slice A ws.length c)).setCell ⟨b, 0, none⟩ (.bool t)) b z ∧ Only b w ((w1.setCell ⟨b, 1, none⟩ (.slice A ws.length c)).setCell ⟨b, 0, none⟩ (.bool t)) := by
  have hb1 := hb.ext hE
  refine ⟨⟨A, c, ws, t, (hb1.set_ 1 _).set_ 0 _, (hw.set_ (by intro a ha hn; subst ha; exact words_ne hw hn hb1) 1 _).set_ (by intro a ha hn; subst ha; exact words_ne hw hn hb1) 0 _, hl, hN, ?_, ?_⟩, ((Only.of_ext hE).set_ 1 _).set_ 0 _⟩
  · intro e; subst e; subst ht; rfl
  · rw [hz, ht]
    rcases Nat.eq_zero_or_pos ws.length with e | e
    · rw [sign0 e]; simp [e]
    · simp [e]

theorem signAddS {s : Bool} {xs ys ws : List Nat} (h : natOf ws = natOf xs + natOf ys) : bigVal s xs - bigVal (!s) ys = bigVal s ws := by cases s <;> simp [bigVal, h] <;> omega
theorem signSubS {s : Bool} {xs ys ws : List Nat} (hge : natOf ys ≤ natOf xs) (h : natOf ws = natOf xs - natOf ys) : bigVal s xs - bigVal s ys = bigVal s ws := by cases s <;> simp [bigVal, h] <;> omega
theorem signSubS' {s : Bool} {xs ys ws : List Nat} (hge : natOf xs ≤ natOf ys) (h : natOf ws = natOf ys - natOf xs) : bigVal s xs - bigVal s ys = bigVal (!s) ws := by cases s <;> simp [bigVal, h] <;> omega

/-- What Add and Sub are handed. -/
structure TwoIn (w : World) (b x x' : Nat) (A B : Option Addr) (c d : Nat) (xs ys : List Nat) (nx ny : Bool) : Prop where
  a0 : w.cell? ⟨x, 0, none⟩ = some (.bool nx)
  a1 : w.cell? ⟨x, 1, none⟩ = some (.slice A xs.length c)
  b0 : w.cell? ⟨x', 0, none⟩ = some (.bool ny)
  b1 : w.cell? ⟨x', 1, none⟩ = some (.slice B ys.length d)
  hb : Blk w b 173 [.bool false, .slice none 0 0]
  hxw : Words w A xs
  hyw : Words w B ys
  hxN : Norm xs
  hyN : Norm ys
  hx1 : xs.length ≤ 1
  hy1 : ys.length ≤ 1
  hxl : xs.length ≤ c
  hyl : ys.length ≤ d
  hxb : x ≠ b
  hyb : x' ≠ b

set_option maxRecDepth 100000 in
set_option maxHeartbeats 1000000 in
theorem intAdd_same (s : Bool) {w : World} {b x x' : Nat} {A B : Option Addr} {c d : Nat} {xs ys : List Nat} (H : TwoIn w b x x' A B c d xs ys s s) :
    Calls Tryz.prog 121 #[.pointer (some ⟨b, 0, none⟩), .pointer (some ⟨x, 0, none⟩), .pointer (some ⟨x', 0, none⟩)] w (RetInto b (bigVal s xs + bigVal s ys) w) := by
  obtain ⟨a0, a1, b0, b1, hb, hxw, hyw, hxN, hyN, hx1, hy1, hxl, hyl, hxb, hyb⟩ := H
  have z0 : w.cell? ⟨b, 0, none⟩ = some (.bool false) := (hb.cell 0).trans rfl
  have z1 : w.cell? ⟨b, 1, none⟩ = some (.slice none 0 0) := (hb.cell 1).trans rfl
  have HX := Lib.hid hxw; have HY := Lib.hid hyw; have HB := Lib.hid hb
  clear hb hxw hyw
  cases s
  all_goals
    go_enter Tryz.func121, Tryz.ntmps121
    go_wp2
    go_quiet (fail)
    go_wp2
    go_region_law (first | (go_simp; go_at_call 174; refine (natAdd1 A B c d xs ys _ (by exact HX.out) (by exact HY.out) hxN hyN hx1 hy1 hxl hyl).mono ?_; rintro e w1 ⟨A', c', ws', rfl, hn⟩; have hE : Ext w w1 := Ext.undrewN hn.2.2.2.2; have z1' := hE.cell' z1; have z0' := hE.cell' z0; have fz1 := (HB.out.ext hE).frozen 1; have fz0 := (HB.out.ext hE).frozen 0; have HN := Lib.hid hn; clear hn; have HE := Lib.hid hE; clear hE))
    all_goals go_wp2
    all_goals go_ret
    all_goals exact ⟨rfl, arithEnd HB.out HE.out HN.out.1 HN.out.2.1 HN.out.2.2.1 (signAdd (s := _) HN.out.2.2.2.1) _ (by simp [*])⟩

set_option maxRecDepth 100000 in
set_option maxHeartbeats 1000000 in
theorem intAdd_ge (s : Bool) {w : World} {b x x' : Nat} {A B : Option Addr} {c d : Nat} {xs ys : List Nat} (H : TwoIn w b x x' A B c d xs ys s (!s)) (hge : natOf ys ≤ natOf xs) :
    Calls Tryz.prog 121 #[.pointer (some ⟨b, 0, none⟩), .pointer (some ⟨x, 0, none⟩), .pointer (some ⟨x', 0, none⟩)] w (RetInto b (bigVal s xs + bigVal (!s) ys) w) := by
  obtain ⟨a0, a1, b0, b1, hb, hxw, hyw, hxN, hyN, hx1, hy1, hxl, hyl, hxb, hyb⟩ := H
  have z0 : w.cell? ⟨b, 0, none⟩ = some (.bool false) := (hb.cell 0).trans rfl
  have z1 : w.cell? ⟨b, 1, none⟩ = some (.slice none 0 0) := (hb.cell 1).trans rfl
  have HX := Lib.hid hxw; have HY := Lib.hid hyw; have HB := Lib.hid hb
  have HC : Hid (∀ W, Words W A xs → Words W B ys → Calls Tryz.prog 175 #[.slice A xs.length c, .slice B ys.length d] W (RetQ (.int .i64 (cmpZ (natOf xs) (natOf ys))) W)) := fun W h1 h2 => natCmp A B c d xs ys W h1 h2 hxN hyN (by omega) (by omega)
  have hc : 0 ≤ cmpZ (natOf xs) (natOf ys) := by unfold cmpZ; rw [if_neg (by omega)]; split <;> omega
  clear hb hxw hyw
  cases s
  all_goals
    go_enter Tryz.func121, Tryz.ntmps121
    go_wp2
    go_quiet (fail)
    go_wp2
    go_quiet ((go_at_call 175; exact quietQ (HC.out _ (by exact HX.out) (by exact HY.out))))
    go_wp2
    go_region_law (first | (go_simp; go_at_call 176; refine (natSub1 A B c d xs ys _ (by exact HX.out) (by exact HY.out) hxN hyN hx1 hy1 hxl hyl hge).mono ?_; rintro e w1 ⟨A', c', ws', rfl, hn⟩; have hE : Ext w w1 := Ext.undrewN hn.2.2.2.2; have z1' := hE.cell' z1; have z0' := hE.cell' z0; have fz1 := (HB.out.ext hE).frozen 1; have fz0 := (HB.out.ext hE).frozen 0; have HN := Lib.hid hn; clear hn; have HE := Lib.hid hE; clear hE))
    all_goals go_wp2
    all_goals go_ret
    all_goals exact ⟨rfl, arithEnd HB.out HE.out HN.out.1 HN.out.2.1 HN.out.2.2.1 (signSub (s := _) hge HN.out.2.2.2.1) _ (by simp [*])⟩

set_option maxRecDepth 100000 in
set_option maxHeartbeats 1000000 in
theorem intAdd_lt (s : Bool) {w : World} {b x x' : Nat} {A B : Option Addr} {c d : Nat} {xs ys : List Nat} (H : TwoIn w b x x' A B c d xs ys s (!s)) (hlt : natOf xs < natOf ys) :
    Calls Tryz.prog 121 #[.pointer (some ⟨b, 0, none⟩), .pointer (some ⟨x, 0, none⟩), .pointer (some ⟨x', 0, none⟩)] w (RetInto b (bigVal s xs + bigVal (!s) ys) w) := by
  obtain ⟨a0, a1, b0, b1, hb, hxw, hyw, hxN, hyN, hx1, hy1, hxl, hyl, hxb, hyb⟩ := H
  have z0 : w.cell? ⟨b, 0, none⟩ = some (.bool false) := (hb.cell 0).trans rfl
  have z1 : w.cell? ⟨b, 1, none⟩ = some (.slice none 0 0) := (hb.cell 1).trans rfl
  have HX := Lib.hid hxw; have HY := Lib.hid hyw; have HB := Lib.hid hb
  have HC : Hid (∀ W, Words W A xs → Words W B ys → Calls Tryz.prog 175 #[.slice A xs.length c, .slice B ys.length d] W (RetQ (.int .i64 (cmpZ (natOf xs) (natOf ys))) W)) := fun W h1 h2 => natCmp A B c d xs ys W h1 h2 hxN hyN (by omega) (by omega)
  have hc : cmpZ (natOf xs) (natOf ys) < 0 := by unfold cmpZ; rw [if_pos (by omega)]; omega
  have hge : natOf xs ≤ natOf ys := by omega
  clear hlt
  clear hb hxw hyw
  cases s
  all_goals
    go_enter Tryz.func121, Tryz.ntmps121
    go_wp2
    go_quiet (fail)
    go_wp2
    go_quiet ((go_at_call 175; exact quietQ (HC.out _ (by exact HX.out) (by exact HY.out))))
    go_wp2
    go_region_law (first | (go_simp; go_at_call 176; refine (natSub1 B A d c ys xs _ (by exact HY.out) (by exact HX.out) hyN hxN hy1 hx1 hyl hxl hge).mono ?_; rintro e w1 ⟨A', c', ws', rfl, hn⟩; have hE : Ext w w1 := Ext.undrewN hn.2.2.2.2; have z1' := hE.cell' z1; have z0' := hE.cell' z0; have fz1 := (HB.out.ext hE).frozen 1; have fz0 := (HB.out.ext hE).frozen 0; have HN := Lib.hid hn; clear hn; have HE := Lib.hid hE; clear hE))
    all_goals go_wp2
    all_goals go_ret
    all_goals exact ⟨rfl, arithEnd HB.out HE.out HN.out.1 HN.out.2.1 HN.out.2.2.1 (signSub' (s := _) hge HN.out.2.2.2.1) _ (by simp [*])⟩

theorem intAdd (b : Nat) (u v : Value) (y z : Int) (w : World) (hu : IsBig w u y) (hv : IsBig w v z) (hb : Blk w b 173 [.bool false, .slice none 0 0]) (hy : y.natAbs < B64) (hz : z.natAbs < B64)
    (hnu : u ≠ .pointer (some ⟨b, 0, none⟩)) (hnv : v ≠ .pointer (some ⟨b, 0, none⟩)) :
    Calls Tryz.prog 121 #[.pointer (some ⟨b, 0, none⟩), u, v] w (RetInto b (y + z) w) := by
  obtain ⟨x, rfl, A, c, xs, nx, ha, hxw, hxl, hxN, hx0, rfl⟩ := hu
  obtain ⟨x', rfl, B, d, ys, ny, hb', hyw, hyl, hyN, hy0, rfl⟩ := hv
  rw [natAbs_bigVal] at hy hz
  have H : TwoIn w b x x' A B c d xs ys nx ny := ⟨(ha.cell 0).trans rfl, (ha.cell 1).trans rfl, (hb'.cell 0).trans rfl, (hb'.cell 1).trans rfl, hb, hxw, hyw, hxN, hyN, len_le_one hxN hy, len_le_one hyN hz, hxl, hyl, fun e => hnu (by rw [e]), fun e => hnv (by rw [e])⟩
  by_cases hs : nx = ny
  · subst hs
    exact intAdd_same _ H
  · obtain rfl : ny = !nx := by cases nx <;> cases ny <;> simp_all
    exact if hge : natOf ys ≤ natOf xs then intAdd_ge _ H hge else intAdd_lt _ H (by omega)

end Go.Proofs.YtfafiahefjimdaaGreatDoor

namespace Go.Proofs.YtfafiahefjimdaaGreatDoor
open Go Go.RowKit

set_option maxRecDepth 100000 in
set_option maxHeartbeats 1000000 in
theorem intSub_diff (s : Bool) {w : World} {b x x' : Nat} {A B : Option Addr} {c d : Nat} {xs ys : List Nat} (H : TwoIn w b x x' A B c d xs ys s (!s)) :
    Calls Tryz.prog 289 #[.pointer (some ⟨b, 0, none⟩), .pointer (some ⟨x, 0, none⟩), .pointer (some ⟨x', 0, none⟩)] w (RetInto b (bigVal s xs - bigVal (!s) ys) w) := by
  obtain ⟨a0, a1, b0, b1, hb, hxw, hyw, hxN, hyN, hx1, hy1, hxl, hyl, hxb, hyb⟩ := H
  have z0 : w.cell? ⟨b, 0, none⟩ = some (.bool false) := (hb.cell 0).trans rfl
  have z1 : w.cell? ⟨b, 1, none⟩ = some (.slice none 0 0) := (hb.cell 1).trans rfl
  have HX := Lib.hid hxw; have HY := Lib.hid hyw; have HB := Lib.hid hb
  clear hb hxw hyw
  cases s
  all_goals
    go_enter Tryz.func289, Tryz.ntmps289
    go_wp2
    go_quiet (fail)
    go_wp2
    go_region_law (first | (go_simp; go_at_call 174; refine (natAdd1 A B c d xs ys _ (by exact HX.out) (by exact HY.out) hxN hyN hx1 hy1 hxl hyl).mono ?_; rintro e w1 ⟨A', c', ws', rfl, hn⟩; have hE : Ext w w1 := Ext.undrewN hn.2.2.2.2; have z1' := hE.cell' z1; have z0' := hE.cell' z0; have fz1 := (HB.out.ext hE).frozen 1; have fz0 := (HB.out.ext hE).frozen 0; have HN := Lib.hid hn; clear hn; have HE := Lib.hid hE; clear hE))
    all_goals go_wp2
    all_goals go_ret
    all_goals exact ⟨rfl, arithEnd HB.out HE.out HN.out.1 HN.out.2.1 HN.out.2.2.1 (signAddS (s := _) HN.out.2.2.2.1) _ (by simp [*])⟩

set_option maxRecDepth 100000 in
set_option maxHeartbeats 1000000 in
theorem intSub_ge (s : Bool) {w : World} {b x x' : Nat} {A B : Option Addr} {c d : Nat} {xs ys : List Nat} (H : TwoIn w b x x' A B c d xs ys s s) (hge : natOf ys ≤ natOf xs) :
    Calls Tryz.prog 289 #[.pointer (some ⟨b, 0, none⟩), .pointer (some ⟨x, 0, none⟩), .pointer (some ⟨x', 0, none⟩)] w (RetInto b (bigVal s xs - bigVal s ys) w) := by
  obtain ⟨a0, a1, b0, b1, hb, hxw, hyw, hxN, hyN, hx1, hy1, hxl, hyl, hxb, hyb⟩ := H
  have z0 : w.cell? ⟨b, 0, none⟩ = some (.bool false) := (hb.cell 0).trans rfl
  have z1 : w.cell? ⟨b, 1, none⟩ = some (.slice none 0 0) := (hb.cell 1).trans rfl
  have HX := Lib.hid hxw; have HY := Lib.hid hyw; have HB := Lib.hid hb
  have HC : Hid (∀ W, Words W A xs → Words W B ys → Calls Tryz.prog 175 #[.slice A xs.length c, .slice B ys.length d] W (RetQ (.int .i64 (cmpZ (natOf xs) (natOf ys))) W)) := fun W h1 h2 => natCmp A B c d xs ys W h1 h2 hxN hyN (by omega) (by omega)
  have hc : 0 ≤ cmpZ (natOf xs) (natOf ys) := by unfold cmpZ; rw [if_neg (by omega)]; split <;> omega
  clear hb hxw hyw
  cases s
  all_goals
    go_enter Tryz.func289, Tryz.ntmps289
    go_wp2
    go_quiet (fail)
    go_wp2
    go_quiet ((go_at_call 175; exact quietQ (HC.out _ (by exact HX.out) (by exact HY.out))))
    go_wp2
    go_region_law (first | (go_simp; go_at_call 176; refine (natSub1 A B c d xs ys _ (by exact HX.out) (by exact HY.out) hxN hyN hx1 hy1 hxl hyl hge).mono ?_; rintro e w1 ⟨A', c', ws', rfl, hn⟩; have hE : Ext w w1 := Ext.undrewN hn.2.2.2.2; have z1' := hE.cell' z1; have z0' := hE.cell' z0; have fz1 := (HB.out.ext hE).frozen 1; have fz0 := (HB.out.ext hE).frozen 0; have HN := Lib.hid hn; clear hn; have HE := Lib.hid hE; clear hE))
    all_goals go_wp2
    all_goals go_ret
    all_goals exact ⟨rfl, arithEnd HB.out HE.out HN.out.1 HN.out.2.1 HN.out.2.2.1 (signSubS (s := _) hge HN.out.2.2.2.1) _ (by simp [*])⟩

set_option maxRecDepth 100000 in
set_option maxHeartbeats 1000000 in
theorem intSub_lt (s : Bool) {w : World} {b x x' : Nat} {A B : Option Addr} {c d : Nat} {xs ys : List Nat} (H : TwoIn w b x x' A B c d xs ys s s) (hlt : natOf xs < natOf ys) :
    Calls Tryz.prog 289 #[.pointer (some ⟨b, 0, none⟩), .pointer (some ⟨x, 0, none⟩), .pointer (some ⟨x', 0, none⟩)] w (RetInto b (bigVal s xs - bigVal s ys) w) := by
  obtain ⟨a0, a1, b0, b1, hb, hxw, hyw, hxN, hyN, hx1, hy1, hxl, hyl, hxb, hyb⟩ := H
  have z0 : w.cell? ⟨b, 0, none⟩ = some (.bool false) := (hb.cell 0).trans rfl
  have z1 : w.cell? ⟨b, 1, none⟩ = some (.slice none 0 0) := (hb.cell 1).trans rfl
  have HX := Lib.hid hxw; have HY := Lib.hid hyw; have HB := Lib.hid hb
  have HC : Hid (∀ W, Words W A xs → Words W B ys → Calls Tryz.prog 175 #[.slice A xs.length c, .slice B ys.length d] W (RetQ (.int .i64 (cmpZ (natOf xs) (natOf ys))) W)) := fun W h1 h2 => natCmp A B c d xs ys W h1 h2 hxN hyN (by omega) (by omega)
  have hc : cmpZ (natOf xs) (natOf ys) < 0 := by unfold cmpZ; rw [if_pos (by omega)]; omega
  have hge : natOf xs ≤ natOf ys := by omega
  clear hlt
  clear hb hxw hyw
  cases s
  all_goals
    go_enter Tryz.func289, Tryz.ntmps289
    go_wp2
    go_quiet (fail)
    go_wp2
    go_quiet ((go_at_call 175; exact quietQ (HC.out _ (by exact HX.out) (by exact HY.out))))
    go_wp2
    go_region_law (first | (go_simp; go_at_call 176; refine (natSub1 B A d c ys xs _ (by exact HY.out) (by exact HX.out) hyN hxN hy1 hx1 hyl hxl hge).mono ?_; rintro e w1 ⟨A', c', ws', rfl, hn⟩; have hE : Ext w w1 := Ext.undrewN hn.2.2.2.2; have z1' := hE.cell' z1; have z0' := hE.cell' z0; have fz1 := (HB.out.ext hE).frozen 1; have fz0 := (HB.out.ext hE).frozen 0; have HN := Lib.hid hn; clear hn; have HE := Lib.hid hE; clear hE))
    all_goals go_wp2
    all_goals go_ret
    all_goals exact ⟨rfl, arithEnd HB.out HE.out HN.out.1 HN.out.2.1 HN.out.2.2.1 (signSubS' (s := _) hge HN.out.2.2.2.1) _ (by simp [*])⟩

theorem intSub (b : Nat) (u v : Value) (y z : Int) (w : World) (hu : IsBig w u y) (hv : IsBig w v z) (hb : Blk w b 173 [.bool false, .slice none 0 0]) (hy : y.natAbs < B64) (hz : z.natAbs < B64)
    (hnu : u ≠ .pointer (some ⟨b, 0, none⟩)) (hnv : v ≠ .pointer (some ⟨b, 0, none⟩)) :
    Calls Tryz.prog 289 #[.pointer (some ⟨b, 0, none⟩), u, v] w (RetInto b (y - z) w) := by
  obtain ⟨x, rfl, A, c, xs, nx, ha, hxw, hxl, hxN, hx0, rfl⟩ := hu
  obtain ⟨x', rfl, B, d, ys, ny, hb', hyw, hyl, hyN, hy0, rfl⟩ := hv
  rw [natAbs_bigVal] at hy hz
  have H : TwoIn w b x x' A B c d xs ys nx ny := ⟨(ha.cell 0).trans rfl, (ha.cell 1).trans rfl, (hb'.cell 0).trans rfl, (hb'.cell 1).trans rfl, hb, hxw, hyw, hxN, hyN, len_le_one hxN hy, len_le_one hyN hz, hxl, hyl, fun e => hnu (by rw [e]), fun e => hnv (by rw [e])⟩
  by_cases hs : nx = ny
  · subst hs
    exact if hge : natOf ys ≤ natOf xs then intSub_ge _ H hge else intSub_lt _ H (by omega)
  · obtain rfl : ny = !nx := by cases nx <;> cases ny <;> simp_all
    exact intSub_diff _ H

end Go.Proofs.YtfafiahefjimdaaGreatDoor

namespace Go.Proofs.YtfafiahefjimdaaGreatDoor
open Go Go.RowKit

theorem blk_new0 (w : World) (t : TypeId) (cs : List Value) : Blk (w.alloc (.cells cs.toArray t)) w.heap.size t cs := Blk.new _ _ _
theorem blk_new1 (w : World) (o : Obj) (t : TypeId) (cs : List Value) : Blk ((w.alloc o).alloc (.cells cs.toArray t)) (w.heap.size + 1) t cs := by
  have := Blk.new (w.alloc o) t cs
  rwa [show (w.alloc o).heap.size = w.heap.size + 1 by simp] at this
theorem blk_new2 (w : World) (o o' : Obj) (t : TypeId) (cs : List Value) : Blk (((w.alloc o).alloc o').alloc (.cells cs.toArray t)) (w.heap.size + 2) t cs := by
  have := Blk.new ((w.alloc o).alloc o') t cs
  rwa [show ((w.alloc o).alloc o').heap.size = w.heap.size + 2 by simp] at this
theorem blk_new3 (w : World) (o o' o'' : Obj) (t : TypeId) (cs : List Value) : Blk ((((w.alloc o).alloc o').alloc o'').alloc (.cells cs.toArray t)) (w.heap.size + 3) t cs := by
  have := Blk.new (((w.alloc o).alloc o').alloc o'') t cs
  rwa [show (((w.alloc o).alloc o').alloc o'').heap.size = w.heap.size + 3 by simp] at this
theorem ext1 (w : World) (o : Obj) : Ext w (w.alloc o) := Ext.alloc' _ _
theorem ext2 (w : World) (o o' : Obj) : Ext w ((w.alloc o).alloc o') := (Ext.alloc' _ _).trans' (Ext.alloc' _ _)
theorem ext3 (w : World) (o o' o'' : Obj) : Ext w (((w.alloc o).alloc o').alloc o'') := (ext2 _ _ _).trans' (Ext.alloc' _ _)
theorem ext4 (w : World) (o o' o'' o3 : Obj) : Ext w ((((w.alloc o).alloc o').alloc o'').alloc o3) := (ext3 _ _ _ _).trans' (Ext.alloc' _ _)
theorem big_ne {w : World} {v : Value} {z : Int} (h : IsBig w v z) : v ≠ .pointer (some ⟨w.heap.size, 0, none⟩) := by
  obtain ⟨b, rfl, hb⟩ := h
  intro e
  injection e with e
  injection e with e
  injection e with e
  have := hb.lt
  omega
/-- A pointer to a new big integer handed back. -/
def RetPtr (z : Int) (w : World) (e : Ending) (w' : World) : Prop := ∃ b, e = .returned (.pointer (some ⟨b, 0, none⟩)) ∧ BigAt w' b z ∧ Ext w w'

set_option maxRecDepth 100000 in
theorem cOverflows (v : Value) (z : Int) (w : World) (hv : IsBig w v z) (hz : z.natAbs < B64) : Calls Tryz.prog 294 #[v] w fun e w' => e = .returned (.bool false) ∧ w = w' := by
  have H := Lib.hid (intBits v z w hv hz); clear hv hz
  go_enter Tryz.func294, Tryz.ntmps294
  go_wp2_with (go_at_call 328; refine H.out.mono ?_; rintro e w' ⟨⟨A, n, c, hn, rfl⟩, rfl⟩; have hd : decide (4 < n) = false := by simp; omega)
  go_ret
  exact ⟨rfl, rfl⟩

set_option maxRecDepth 100000 in
theorem cAdd (u v : Value) (y z : Int) (w : World) (hu : IsBig w u y) (hv : IsBig w v z) (hy : y.natAbs < B64) (hz : z.natAbs < B64) : Calls Tryz.prog 352 #[u, v] w (RetPtr (y + z) w) := by
  have H := Lib.hid (intAdd w.heap.size u v y z _ (hu.ext (ext1 w _)) (hv.ext (ext1 w _)) (blk_new0 w _ _) hy hz (big_ne hu) (big_ne hv))
  clear hu hv hy hz
  go_enter Tryz.func352, Tryz.ntmps352
  go_wp2_with (go_at_call 121; refine H.out.mono ?_; rintro e w' ⟨rfl, hr⟩; have HR := Lib.hid hr; clear hr)
  go_ret
  exact ⟨_, rfl, HR.out.1, Only.ext (ext1 w _) HR.out.2 (Nat.le_refl _)⟩

set_option maxRecDepth 100000 in
theorem mSafeAdd (a b : Nat) (y z : Int) (w : World) (hu : BigAt w a y) (hv : BigAt w b z) (hy : y.natAbs < B64) (hz : z.natAbs < B64) (hs : (y + z).natAbs < B64) :
    Calls Tryz.prog 325 #[.agg #[.pointer (some ⟨a, 0, none⟩)], .agg #[.pointer (some ⟨b, 0, none⟩)]] w fun e w' => ∃ r, e = .returned (.tuple #[.agg #[.pointer (some ⟨r, 0, none⟩)], .nilIface]) ∧ BigAt w' r (y + z) ∧ Ext w w' := by
  have e3 := ext3 w (intBox a) (intBox b) (.cells #[.pointer none] 150)
  have nb := blk_new2 w (intBox a) (intBox b) 150 [.pointer none]
  have H := Lib.hid (cAdd _ _ y z _ (hu.ext e3).big (hv.ext e3).big hy hz)
  have NB := Lib.hid nb; have E3 := Lib.hid e3; clear nb e3
  have HS : ∀ W v, IsBig W v (y + z) → Calls Tryz.prog 294 #[v] W fun e w' => e = .returned (.bool false) ∧ W = w' := fun W v h => cOverflows v _ W h hs
  have HSS := Lib.hid HS
  clear hu hv hy hz HS hs
  go_enter Tryz.func325, Tryz.ntmps325
  go_wp2_with (first | (go_at_call 352; refine H.out.mono ?_; rintro e w' ⟨r, rfl, hr, hE⟩; have HR := Lib.hid hr; have b1 := Lib.hid (NB.out.ext hE); have HE := Lib.hid hE; clear hr hE; have c0 : w'.cell? ⟨w.heap.size + 2, 0, none⟩ = some (.pointer none) := (b1.out.cell 0).trans rfl; have fz := b1.out.frozen 0) | (go_at_call 294; refine (HSS.out _ _ (by exact (HR.out.set_ b1.out 0 _).big)).mono ?_; rintro e w'' ⟨rfl, rfl⟩))
  exact bodyPost_ret (v := .tuple #[.agg #[.pointer (some ⟨r, 0, none⟩)], .nilIface]) (by simp [results, Tryz.results325, go_sem, c0]) rfl ⟨r, rfl, (HR.out.set_ b1.out 0 _).set_ (b1.out.set_ 0 _) 0 _, Only.ext (E3.out.trans' HE.out) (((Only.refl _ _).set_ 0 _).set_ 0 _) (by omega)⟩

set_option maxRecDepth 100000 in
theorem mAdd (a b : Nat) (y z : Int) (w : World) (hu : BigAt w a y) (hv : BigAt w b z) (hy : y.natAbs < B64) (hz : z.natAbs < B64) (hs : (y + z).natAbs < B64) :
    Calls Tryz.prog 292 #[.agg #[.pointer (some ⟨a, 0, none⟩)], .agg #[.pointer (some ⟨b, 0, none⟩)]] w (RetInt (y + z) w) := by
  have e3 := ext3 w (intBox a) (intBox b) (.cells #[.pointer none] 150)
  have nb := blk_new2 w (intBox a) (intBox b) 150 [.pointer none]
  have H := Lib.hid (mSafeAdd _ _ y z _ (hu.ext e3) (hv.ext e3) hy hz hs)
  have NB := Lib.hid nb; have E3 := Lib.hid e3; clear nb e3
  clear hu hv hy hz hs
  go_enter Tryz.func292, Tryz.ntmps292
  go_wp2_with (first | (go_at_call 325; refine H.out.mono ?_; rintro e w' ⟨r, rfl, hr, hE⟩; have HR := Lib.hid hr; have b1 := Lib.hid (NB.out.ext hE); have HE := Lib.hid hE; clear hr hE; have c0 : (w'.alloc (intBox r)).cell? ⟨w.heap.size + 2, 0, none⟩ = some (.pointer none) := ((b1.out.alloc _).cell 0).trans rfl; have fz := (b1.out.alloc (intBox r)).frozen 0))
  exact bodyPost_ret (v := .agg #[.pointer (some ⟨r, 0, none⟩)]) (by simp [results, Tryz.results292, go_sem, c0]) rfl ⟨r, rfl, (HR.out.ext (ext1 _ _)).set_ (b1.out.alloc _) 0 _, Only.ext ((E3.out.trans' HE.out).trans' (ext1 _ _)) ((Only.refl _ _).set_ 0 _) (by omega)⟩

end Go.Proofs.YtfafiahefjimdaaGreatDoor

namespace Go.Proofs.YtfafiahefjimdaaGreatDoor
open Go Go.RowKit

/-- A coin handed back. -/
def RetCoin (s : ByteArray) (z : Int) (w : World) (e : Ending) (w' : World) : Prop := ∃ b, e = .returned (.agg #[.string s, .pointer (some ⟨b, 0, none⟩)]) ∧ BigAt w' b z ∧ Ext w w'
abbrev coinV (s : ByteArray) (b : Nat) : Value := .agg #[.string s, .pointer (some ⟨b, 0, none⟩)]
abbrev coinBox (s : ByteArray) (b : Nat) : Obj := .cells #[.string s, .pointer (some ⟨b, 0, none⟩)] 152
abbrev planBox (s : ByteArray) (n : Int) : Obj := .cells #[.string s, .int .i64 n] 55

set_option maxRecDepth 100000 in
theorem mBigInt (b : Nat) (z : Int) (w : World) (h : BigAt w b z) (hz : z.natAbs < B64) : Calls Tryz.prog 211 #[.agg #[.pointer (some ⟨b, 0, none⟩)]] w (RetPtr z w) := by
  have HB := Lib.hid (h.ext (ext1 w (intBox b))); have hlt := h.lt
  have hne : (Value.pointer (some ⟨b, 0, none⟩)) ≠ .pointer (some ⟨w.heap.size + 1, 0, none⟩) := by intro e; injection e with e; injection e with e; injection e with e; omega
  clear h
  have kb := Lib.hid (blk_new0 w 150 [.pointer (some ⟨b, 0, none⟩)])
  go_enter Tryz.func211, Tryz.ntmps211
  go_wp2_with (first | (go_at_call 159; refine (mIsNil b z _ (by exact HB.out)).mono ?_; rintro e w1 ⟨rfl, hE⟩; have HE1 := Lib.hid hE; clear hE; have p1 : (w1.alloc (.cells #[.bool false, .slice none 0 0] 173)).cell? ⟨w.heap.size, 0, none⟩ = some (.pointer (some ⟨b, 0, none⟩)) := (((kb.out.ext HE1.out).alloc _).cell 0).trans rfl) | (go_at_call 232; refine (intSet w1.heap.size _ z _ (by exact ((HB.out.ext HE1.out).ext (ext1 _ _)).big) (by exact big_ne (HB.out.ext HE1.out).big) (by exact blk_new0 w1 _ _) hz).mono ?_; rintro e w2 ⟨rfl, hr⟩; have HR := Lib.hid hr; clear hr))
  go_ret
  exact ⟨_, rfl, HR.out.1, Only.ext (((ext1 _ _).trans' HE1.out).trans' (ext1 _ _)) HR.out.2 (by have := HE1.out.size; simp at this; omega)⟩

theorem two_done {w w1 : World} {g b : Nat} {z : Int} {t : TypeId} {cs : List Value} (hE : Ext w w1) (hg : w.heap.size ≤ g) (hk : Blk w1 g t cs) (hB : BigAt w1 b z) (u v : Value) (h1 : 221 ≠ t := by decide) (h2 : 173 ≠ t := by decide) :
    BigAt ((w1.setCell ⟨g, 0, none⟩ u).setCell ⟨g, 1, none⟩ v) b z ∧ Ext w ((w1.setCell ⟨g, 0, none⟩ u).setCell ⟨g, 1, none⟩ v) :=
  ⟨(hB.set_ hk 0 u h1 h2).set_ (hk.set_ 0 u) 1 v h1 h2, Only.ext hE (((Only.refl _ _).set_ 0 _).set_ 1 _) hg⟩

set_option maxRecDepth 100000 in
theorem iCoin (s : ByteArray) (n : Int) (w : World) (h0 : -maxI ≤ n) (h1 : n ≤ maxI) : Calls Tryz.prog 100 #[.agg #[.string s, .int .i64 n]] w (RetCoin s n w) := by
  have k1 := Lib.hid ((blk_new0 w 55 [.string s, .int .i64 n]).alloc (.cells #[.string ByteArray.empty, .pointer none] 152))
  have k2 := Lib.hid (blk_new1 w (planBox s n) 152 [.string ByteArray.empty, .pointer none])
  go_enter Tryz.func100, Tryz.ntmps100
  go_wp2
  go_region_law (first | (go_simp; go_at_call 155; refine (mNewInt n _ h0 h1).mono ?_; rintro e w1 ⟨b, rfl, hB, hE⟩; have hE' := Ext.undrew hE; have HB := Lib.hid hB; have HE := Lib.hid hE'; have s0 : w1.cell? ⟨w.heap.size, 0, none⟩ = some (.string s) := (((k1.out).ext hE').cell 0).trans rfl; have d0 : w1.cell? ⟨w.heap.size + 1, 0, none⟩ = some (.string ByteArray.empty) := (((k2.out).ext hE').cell 0).trans rfl; have d1 : w1.cell? ⟨w.heap.size + 1, 1, none⟩ = some (.pointer none) := (((k2.out).ext hE').cell 1).trans rfl; have f0 := ((k2.out).ext hE').frozen 0; have f1 := ((k2.out).ext hE').frozen 1; clear hE hE' hB))
  all_goals go_wp2
  all_goals exact bodyPost_ret (v := coinV s b) (by simp [results, Tryz.results100, go_sem, d0, d1]) rfl ⟨b, rfl, two_done ((ext2 _ _ _).trans' HE.out) (by omega) (k2.out.ext HE.out) HB.out _ _⟩

set_option maxRecDepth 100000 in
theorem tIsNil (s : ByteArray) (b : Nat) (z : Int) (w : World) (h : BigAt w b z) (hz : z.natAbs < B64) : Calls Tryz.prog 169 #[coinV s b] w (RetE (.bool false) w) := by
  have H := Lib.hid (mBigInt b z _ (h.ext (ext1 w (coinBox s b))) hz); clear h hz
  have hp : ∀ (W : World) (r : Nat), (binOp .eql 107 (.pointer (some ⟨r, 0, none⟩)) (.pointer none)).run Tryz.prog W = .ok (.bool false) W := fun _ _ => by kernel_rfl
  go_enter Tryz.func169, Tryz.ntmps169
  go_wp2_with (go_at_call 211; refine H.out.mono ?_; rintro e w' ⟨r, rfl, hr, hE⟩; have HE := Lib.hid hE; clear hr hE)
  go_ret
  exact ⟨rfl, (ext1 _ _).trans' HE.out⟩

set_option maxRecDepth 100000 in
theorem iBackCoin (s : ByteArray) (b : Nat) (z : Int) (w : World) (h : BigAt w b z) (h0 : -maxI ≤ z) (h1 : z ≤ maxI) : Calls Tryz.prog 115 #[coinV s b] w fun e w' => e = .returned (.tuple #[.agg #[.string s, .int .i64 z], .bool true]) ∧ Ext w w' := by
  have hz : z.natAbs < B64 := by unfold maxI at h0 h1; unfold B64; omega
  have k1 := Lib.hid ((blk_new0 w 152 [.string s, .pointer (some ⟨b, 0, none⟩)]).alloc (.cells #[.string ByteArray.empty, .int .i64 0] 55))
  have k2 := Lib.hid (blk_new1 w (coinBox s b) 55 [.string ByteArray.empty, .int .i64 0])
  have HB := Lib.hid (h.ext (ext2 w (coinBox s b) (.cells #[.string ByteArray.empty, .int .i64 0] 55)))
  clear h
  go_enter Tryz.func115, Tryz.ntmps115
  go_wp2_with (first | (go_at_call 169; refine (tIsNil s b z _ (by exact HB.out) hz).mono ?_; rintro e w1 ⟨rfl, hE⟩; have HE1 := Lib.hid hE; clear hE; have p1 : w1.cell? ⟨w.heap.size, 1, none⟩ = some (.pointer (some ⟨b, 0, none⟩)) := ((k1.out.ext HE1.out).cell 1).trans rfl) | (go_at_call 170; refine (mIsInt64 b z _ (by exact HB.out.ext HE1.out) h0 h1).mono ?_; rintro e w2 ⟨rfl, hE⟩; have HE2 := Lib.hid (HE1.out.trans' hE); clear hE; have p2 : w2.cell? ⟨w.heap.size, 1, none⟩ = some (.pointer (some ⟨b, 0, none⟩)) := ((k1.out.ext HE2.out).cell 1).trans rfl; have s2 : w2.cell? ⟨w.heap.size, 0, none⟩ = some (.string s) := ((k1.out.ext HE2.out).cell 0).trans rfl))
  go_region_law (first | (go_simp; go_at_call 171; refine (mInt64 b z _ (by exact HB.out.ext (Below.drew HE2.out)) h0 h1).mono ?_; rintro e w3 ⟨rfl, hE⟩; have HE3 := Lib.hid (HE2.out.trans' (Ext.undrew hE)); clear hE; have s0 : w3.cell? ⟨w.heap.size, 0, none⟩ = some (.string s) := ((k1.out.ext HE3.out).cell 0).trans rfl; have d0 : w3.cell? ⟨w.heap.size + 1, 0, none⟩ = some (.string ByteArray.empty) := ((k2.out.ext HE3.out).cell 0).trans rfl; have d1 : w3.cell? ⟨w.heap.size + 1, 1, none⟩ = some (.int .i64 0) := ((k2.out.ext HE3.out).cell 1).trans rfl; have f0 := (k2.out.ext HE3.out).frozen 0; have f1 := (k2.out.ext HE3.out).frozen 1))
  all_goals go_wp2
  all_goals exact bodyPost_ret (v := .tuple #[.agg #[.string s, .int .i64 z], .bool true]) (by simp [results, Tryz.results115, go_sem, d0, d1]) rfl ⟨rfl, Only.ext ((ext2 _ _ _).trans' HE3.out) (((Only.refl _ _).set_ 0 _).set_ 1 _) (by omega)⟩
end Go.Proofs.YtfafiahefjimdaaGreatDoor

namespace Go.Proofs.YtfafiahefjimdaaGreatDoor
open Go Go.RowKit

set_option maxRecDepth 100000 in
theorem tIsZero (s : ByteArray) (b : Nat) (z : Int) (w : World) (h : BigAt w b z) : Calls Tryz.prog 103 #[coinV s b] w (RetE (.bool (sgn z == 0)) w) := by
  have H := Lib.hid (mIsZero b z _ (h.ext (ext1 w (coinBox s b)))); clear h
  go_enter Tryz.func103, Tryz.ntmps103
  go_wp2_with (go_at_call 157; refine H.out.mono ?_; rintro e w' ⟨rfl, hE⟩; have HE := Lib.hid hE; clear hE)
  go_ret
  exact ⟨rfl, (ext1 _ _).trans' HE.out⟩

set_option maxRecDepth 100000 in
theorem tIsPositive (s : ByteArray) (b : Nat) (z : Int) (w : World) (h : BigAt w b z) : Calls Tryz.prog 104 #[coinV s b] w (RetE (.bool (sgn z == 1)) w) := by
  have H := Lib.hid (mSign b z _ (h.ext (ext1 w (coinBox s b)))); clear h
  go_enter Tryz.func104, Tryz.ntmps104
  go_wp2_with (go_at_call 158; refine H.out.mono ?_; rintro e w' ⟨rfl, hE⟩; have HE := Lib.hid hE; clear hE)
  go_ret
  exact ⟨rfl, (ext1 _ _).trans' HE.out⟩

set_option maxRecDepth 100000 in
theorem tIsNegative (s : ByteArray) (b : Nat) (z : Int) (w : World) (h : BigAt w b z) : Calls Tryz.prog 105 #[coinV s b] w (RetE (.bool (sgn z == -1)) w) := by
  have H := Lib.hid (mSign b z _ (h.ext (ext1 w (coinBox s b)))); clear h
  go_enter Tryz.func105, Tryz.ntmps105
  go_wp2_with (go_at_call 158; refine H.out.mono ?_; rintro e w' ⟨rfl, hE⟩; have HE := Lib.hid hE; clear hE)
  go_ret
  exact ⟨rfl, (ext1 _ _).trans' HE.out⟩


/-- Equal of two coins. -/
def coinEq (s t : ByteArray) (y z : Int) : Bool := (s.toList == t.toList) && (cmpZ y z == 0)

set_option maxRecDepth 100000 in
theorem tAdd (s : ByteArray) (a b : Nat) (y z : Int) (w : World) (hu : BigAt w a y) (hv : BigAt w b z) (hy : y.natAbs < B64) (hz : z.natAbs < B64) (hs : (y + z).natAbs < B64) :
    Calls Tryz.prog 251 #[coinV s a, coinV s b] w (RetCoin s (y + z) w) := by
  have k0 := Lib.hid (((blk_new0 w 152 [.string s, .pointer (some ⟨a, 0, none⟩)]).alloc (coinBox s b)).alloc (.cells #[.string ByteArray.empty, .pointer none] 152))
  have k1 := Lib.hid ((blk_new1 w (coinBox s a) 152 [.string s, .pointer (some ⟨b, 0, none⟩)]).alloc (.cells #[.string ByteArray.empty, .pointer none] 152))
  have k2 := Lib.hid (blk_new2 w (coinBox s a) (coinBox s b) 152 [.string ByteArray.empty, .pointer none])
  have e3 := ext3 w (coinBox s a) (coinBox s b) (.cells #[.string ByteArray.empty, .pointer none] 152)
  have HU := Lib.hid (hu.ext e3); have HV := Lib.hid (hv.ext e3); have E3 := Lib.hid e3
  clear hu hv e3
  go_enter Tryz.func251, Tryz.ntmps251
  go_wp2
  go_region_law (first | (go_simp; go_at_call 292; refine (mAdd a b y z _ (by exact HU.out.ext (Ext.drewN' _ 1)) (by exact HV.out.ext (Ext.drewN' _ 1)) hy hz hs).mono ?_; rintro e w1 ⟨r, rfl, hB, hE⟩; have hE' := Ext.undrew hE; have HB := Lib.hid hB; have HE := Lib.hid hE'; have s0 : w1.cell? ⟨w.heap.size, 0, none⟩ = some (.string s) := (((k0.out).ext hE').cell 0).trans rfl; have d0 : w1.cell? ⟨w.heap.size + 2, 0, none⟩ = some (.string ByteArray.empty) := (((k2.out).ext hE').cell 0).trans rfl; have d1 : w1.cell? ⟨w.heap.size + 2, 1, none⟩ = some (.pointer none) := (((k2.out).ext hE').cell 1).trans rfl; have f0 := ((k2.out).ext hE').frozen 0; have f1 := ((k2.out).ext hE').frozen 1; clear hE hE' hB))
  all_goals go_wp2
  all_goals exact bodyPost_ret (v := coinV s r) (by simp [results, Tryz.results251, go_sem, d0, d1]) rfl ⟨r, rfl, two_done (E3.out.trans' HE.out) (by omega) (k2.out.ext HE.out) HB.out _ _⟩

end Go.Proofs.YtfafiahefjimdaaGreatDoor
