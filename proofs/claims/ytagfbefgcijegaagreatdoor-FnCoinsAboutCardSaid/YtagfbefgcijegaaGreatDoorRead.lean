/-
  Contracts of what reads a big integer: Sign, Bits, Cmp, IsInt64, Int64.
-/
import Derived.Test.YtagfbefgcijegaaGreatDoorInt
namespace Go.Proofs.YtagfbefgcijegaaGreatDoor
open Go Go.RowKit

def sgn (z : Int) : Int := if z < 0 then -1 else if 0 < z then 1 else 0
theorem natOf_pos {ws : List Nat} (hN : Norm ws) (h : ws ≠ []) : 0 < natOf ws := by
  rcases Nat.eq_zero_or_pos (natOf ws) with e | e
  · exact absurd ((nil_iff hN).1 e) h
  · exact e

set_option maxRecDepth 100000 in
theorem intSign (v : Value) (z : Int) (w : World) (hv : IsBig w v z) : Calls Tryz.prog 141 #[v] w fun e w' => e = .returned (.int .i64 (sgn z)) ∧ w' = w := by
  obtain ⟨x, rfl, A, c, ws, neg, hx, hw, hl, hN, h0, rfl⟩ := hv
  have c0 : w.cell? ⟨x, 0, none⟩ = some (.bool neg) := (hx.cell 0).trans rfl
  have c1 : w.cell? ⟨x, 1, none⟩ = some (.slice A ws.length c) := (hx.cell 1).trans rfl
  clear hx hw
  rcases List.eq_nil_or_concat ws with rfl | ⟨l, a, e⟩
  · have F := Lib.hid (show sgn (bigVal neg []) = 0 by rw [h0 rfl]; rfl)
    clear h0 hN
    simp only [List.length_nil] at c1
    go_enter Tryz.func141, Tryz.ntmps141
    go_wp2
    go_ret
    rw [F.out]; exact ⟨rfl, rfl⟩
  · have hne : ws ≠ [] := by rw [e]; simp
    have hp := natOf_pos hN hne
    obtain ⟨n, hl'⟩ : ∃ n, ws.length = n := ⟨_, rfl⟩
    have hn : 0 < n := by rw [← hl']; exact List.length_pos_iff.2 hne
    rw [hl'] at c1
    have e0 : ((n : Int) == 0) = false := by simp; omega
    have F := Lib.hid (show sgn (bigVal neg ws) = if neg then -1 else 1 by cases neg <;> simp [sgn, bigVal] <;> omega)
    clear h0 hN e hne hl hl'
    cases neg
    all_goals
      go_enter Tryz.func141, Tryz.ntmps141
      go_wp2
      go_ret
      rw [F.out]; exact ⟨rfl, rfl⟩

set_option maxRecDepth 100000 in
theorem natLow (A : Option Addr) (c : Nat) (ws : List Nat) (w : World) (hw : Words w A ws) (hl : ws.length ≤ 1) : Calls Tryz.prog 159 #[.slice A ws.length c] w fun e w' => e = .returned (.int .u64 (natOf ws : Int)) ∧ w' = w := by
  match ws, hl with
  | [], _ =>
    clear hw
    go_enter Tryz.func159, Tryz.ntmps159
    go_wp2
    go_ret
    exact ⟨rfl, rfl⟩
  | [a], _ =>
    obtain ⟨g, o, rfl, hc⟩ := hw.get (by simp)
    have c0 : w.cell? ⟨g, o, none⟩ = some (.int .u64 (a : Int)) := hc 0 (by simp)
    have F := Lib.hid (natOf_one a)
    clear hw hc
    go_enter Tryz.func159, Tryz.ntmps159
    go_wp2
    go_ret
    rw [F.out]; exact ⟨rfl, rfl⟩

def maxI : Int := 9223372036854775807
theorem i64_conv (n : Nat) (h : (n : Int) ≤ maxI) : IntKind.i64.wrap (n : Int) = n := by rw [IntKind.wrap_i64]; unfold maxI at h; omega

set_option maxRecDepth 100000 in
theorem intInt64 (v : Value) (z : Int) (w : World) (hv : IsBig w v z) (h0 : -maxI ≤ z) (h1 : z ≤ maxI) : Calls Tryz.prog 132 #[v] w fun e w' => e = .returned (.int .i64 z) ∧ w' = w := by
  obtain ⟨x, rfl, A, c, ws, neg, hx, hw, hl, hN, hz, rfl⟩ := hv
  have c0 : w.cell? ⟨x, 0, none⟩ = some (.bool neg) := (hx.cell 0).trans rfl
  have c1 : w.cell? ⟨x, 1, none⟩ = some (.slice A ws.length c) := (hx.cell 1).trans rfl
  have hle : (natOf ws : Int) ≤ maxI := by cases neg <;> simp [bigVal] at h0 h1 <;> omega
  have hlen : ws.length ≤ 1 := len_le_one hN (by unfold maxI at hle; unfold B64; omega)
  have HL := Lib.hid (natLow A c ws w hw hlen)
  have E := i64_conv _ hle
  obtain ⟨m, hm⟩ : ∃ m, m = natOf ws := ⟨_, rfl⟩
  rw [← hm] at HL E
  have E' : wrap64 (m : Int) = m := by rw [wrap64, ← IntKind.wrap_i64]; exact E
  have E2 : wrap64 (-(m : Int)) = -(m : Int) := by unfold wrap64; rw [← hm] at hle; unfold maxI at hle; omega
  have F := Lib.hid (show bigVal neg ws = if neg then -(m : Int) else m by rw [hm]; rfl)
  clear hx hw hN hz hl hlen hm h0 h1 hle
  have HE := Lib.hid E; have HE' := Lib.hid E'; have HE2 := Lib.hid E2; clear E E' E2
  cases neg
  all_goals
    go_enter Tryz.func132, Tryz.ntmps132
    go_wp2_with (go_at_call 159; refine HL.out.mono ?_; rintro e w' ⟨rfl, rfl⟩)
    go_ret
    refine ⟨?_, rfl⟩
    rw [F.out]
    first
    | (show Ending.returned (.int .i64 (wrap64 (-wrap64 (m : Int)))) = _; rw [HE'.out, HE2.out]; simp; done)
    | (show Ending.returned (.int .i64 (wrap64 (m : Int))) = _; rw [HE'.out]; simp)

set_option maxRecDepth 100000 in
theorem intIsInt64 (v : Value) (z : Int) (w : World) (hv : IsBig w v z) (h0 : -maxI ≤ z) (h1 : z ≤ maxI) : Calls Tryz.prog 131 #[v] w fun e w' => e = .returned (.bool true) ∧ w' = w := by
  obtain ⟨x, rfl, A, c, ws, neg, hx, hw, hl, hN, hz, rfl⟩ := hv
  have c0 : w.cell? ⟨x, 0, none⟩ = some (.bool neg) := (hx.cell 0).trans rfl
  have c1 : w.cell? ⟨x, 1, none⟩ = some (.slice A ws.length c) := (hx.cell 1).trans rfl
  have hle : (natOf ws : Int) ≤ maxI := by cases neg <;> simp [bigVal] at h0 h1 <;> omega
  have hlen : ws.length ≤ 1 := len_le_one hN (by unfold maxI at hle; unfold B64; omega)
  have HL := Lib.hid (natLow A c ws w hw hlen)
  obtain ⟨m, hm⟩ : ∃ m, m = natOf ws := ⟨_, rfl⟩
  rw [← hm] at HL
  have E' : 0 ≤ wrap64 (m : Int) := by unfold wrap64; rw [← hm] at hle; unfold maxI at hle; omega
  have E2 : decide (0 ≤ wrap64 (m : Int)) = true := by simpa using E'
  obtain ⟨n, hn⟩ : ∃ n, ws.length = n := ⟨_, rfl⟩
  rw [hn] at c1 HL hlen
  have e1 : decide (n ≤ 1) = true := by simpa using hlen
  clear hx hw hN hz hl hm h0 h1 hle hn
  go_enter Tryz.func131, Tryz.ntmps131
  go_wp2_with (go_at_call 159; refine HL.out.mono ?_; rintro e w' ⟨rfl, rfl⟩)
  go_ret
  exact ⟨rfl, rfl⟩

set_option maxRecDepth 100000 in
theorem intBits (v : Value) (z : Int) (w : World) (hv : IsBig w v z) (hz : z.natAbs < B64) : Calls Tryz.prog 180 #[v] w fun e w' => (∃ A n c, n ≤ 1 ∧ e = .returned (.slice A n c)) ∧ w' = w := by
  obtain ⟨x, rfl, A, c, ws, neg, hx, hw, hl, hN, h0, rfl⟩ := hv
  have c1 : w.cell? ⟨x, 1, none⟩ = some (.slice A ws.length c) := (hx.cell 1).trans rfl
  have hlen := len_le_one hN (by rw [natAbs_bigVal] at hz; exact hz)
  clear hx hw h0 hN hz
  go_enter Tryz.func180, Tryz.ntmps180
  go_wp2
  go_ret
  exact ⟨⟨A, ws.length, c, hlen, rfl⟩, rfl⟩

theorem cmpZ_flip (s : Bool) (a b : Nat) : (if s then -cmpZ a b else cmpZ a b) = cmpZ (if s then -(a : Int) else a) (if s then -(b : Int) else b) := by
  cases s
  · rfl
  · simp only [if_true]; unfold cmpZ; split <;> split <;> (try split) <;> (try split) <;> omega

theorem quietQ {P : Program} {f : FuncId} {args : Array Value} {w : World} {a n : Nat} {v : Value} (h : Calls P f args (w.drewN (a + n)) (RetQ v (w.drewN (a + n)))) :
    Calls P f args (w.drewN (a + n)) fun e w'' => e = .returned v ∧ ∃ m, w'' = w.drewN (a + m) :=
  h.mono fun _ _ ⟨he, m, hm⟩ => ⟨he, n + m, by rw [hm, World.drewN_drewN, Nat.add_assoc]⟩

set_option maxRecDepth 100000 in
set_option maxHeartbeats 400000 in
theorem intCmp (u v : Value) (y z : Int) (w : World) (hu : IsBig w u y) (hv : IsBig w v z) (hy : y.natAbs < B64) (hz : z.natAbs < B64) :
    Calls Tryz.prog 177 #[u, v] w (RetQ (.int .i64 (cmpZ y z)) w) := by
  obtain ⟨a, rfl, A, c, xs, nx, ha, hxw, hxl, hxN, hx0, rfl⟩ := hu
  obtain ⟨b, rfl, B, d, ys, ny, hb, hyw, hyl, hyN, hy0, rfl⟩ := hv
  by_cases hab : a = b
  · subst hab
    have hsame : bigVal nx xs = bigVal ny ys := by
      unfold Blk at ha hb
      rw [ha] at hb
      injection hb with hb
      injection hb with hb _
      injection hb with hb
      injection hb with h1 h2
      injection h1 with h1
      injection h2 with h2
      injection h2 with h2 h3 _
      subst h1
      rcases Nat.eq_zero_or_pos xs.length with e | e
      · have e1 := List.eq_nil_of_length_eq_zero e
        have e2 := List.eq_nil_of_length_eq_zero (l := ys) (by omega)
        rw [e1, e2]
      · obtain ⟨g, o, hA, hc⟩ := hxw.get (by intro h; subst h; simp at e)
        obtain ⟨g', o', hB, hc'⟩ := hyw.get (by intro h; rw [h] at h3; simp at h3; rw [h3] at e; simp at e)
        rw [hA, hB] at h2
        injection h2 with h2
        injection h2 with h2 h4 _
        subst h2; subst h4
        have : xs = ys := by
          refine List.ext_getElem h3 (fun i h1 h2 => ?_)
          have := (hc i h1).symm.trans (hc' i h2)
          simp only [Option.some.injEq, Value.int.injEq, true_and] at this; omega
        rw [this]
    have F := Lib.hid (show cmpZ (bigVal nx xs) (bigVal ny ys) = 0 by rw [hsame]; exact cmpZ_eq _)
    have hp := ptr_eq_same w a
    clear hsame ha hb hxw hyw hxN hyN hx0 hy0 hy hz
    go_enter Tryz.func177, Tryz.ntmps177
    go_wp2
    go_ret
    rw [F.out]; exact ⟨rfl, dr0 _⟩
  · have hp := ptr_eq_other w ha hb hab
    have a0 : w.cell? ⟨a, 0, none⟩ = some (.bool nx) := (ha.cell 0).trans rfl
    have a1 : w.cell? ⟨a, 1, none⟩ = some (.slice A xs.length c) := (ha.cell 1).trans rfl
    have b0 : w.cell? ⟨b, 0, none⟩ = some (.bool ny) := (hb.cell 0).trans rfl
    have b1 : w.cell? ⟨b, 1, none⟩ = some (.slice B ys.length d) := (hb.cell 1).trans rfl
    rw [natAbs_bigVal] at hy hz
    have hx1 := len_le_one hxN hy
    have hy1 := len_le_one hyN hz
    have HC : Hid (∀ W, Words W A xs → Words W B ys → Calls Tryz.prog 196 #[.slice A xs.length c, .slice B ys.length d] W (RetQ (.int .i64 (cmpZ (natOf xs) (natOf ys))) W)) := fun W h1 h2 => natCmp A B c d xs ys W h1 h2 hxN hyN (by omega) (by omega)
    have HX := Lib.hid hxw; have HY := Lib.hid hyw
    have hpx : nx = true → 0 < natOf xs := fun e => natOf_pos hxN (fun h => by rw [hx0 h] at e; cases e)
    have hpy : ny = true → 0 < natOf ys := fun e => natOf_pos hyN (fun h => by rw [hy0 h] at e; cases e)
    have F := Lib.hid (show cmpZ (bigVal nx xs) (bigVal ny ys) = if nx = ny then (if nx then -cmpZ (natOf xs) (natOf ys) else cmpZ (natOf xs) (natOf ys)) else if nx then -1 else 1 by
      cases nx <;> cases ny <;> simp only [bigVal, if_true, if_false, Bool.false_eq_true, reduceCtorEq]
      · have := hpy rfl; unfold cmpZ; rw [if_neg (by omega), if_pos (by omega)]
      · have := hpx rfl; unfold cmpZ; rw [if_pos (by omega)]
      · have := cmpZ_flip true (natOf xs) (natOf ys); simpa using this.symm)
    clear ha hb hxw hyw hxN hyN hx0 hy0 hy hz hpx hpy
    cases nx <;> cases ny
    all_goals
      go_enter Tryz.func177, Tryz.ntmps177
      go_wp2
      go_quiet (fail)
      go_wp2
    · go_quiet ((go_at_call 196; exact quietQ (HC.out _ (by exact HX.out) (by exact HY.out))))
      go_wp2
      go_ret
      rw [F.out]; exact ⟨rfl, by first | exact dr1 _ _ | exact dr2 _ _ _⟩
    · go_ret
      rw [F.out]; exact ⟨rfl, by first | exact dr1 _ _ | exact dr2 _ _ _⟩
    · go_ret
      rw [F.out]; exact ⟨rfl, by first | exact dr1 _ _ | exact dr2 _ _ _⟩
    · go_quiet ((go_at_call 196; exact quietQ (HC.out _ (by exact HX.out) (by exact HY.out))))
      go_wp2
      go_ret
      rw [F.out]
      have hr : -1 ≤ cmpZ (natOf xs) (natOf ys) ∧ cmpZ (natOf xs) (natOf ys) ≤ 1 := by unfold cmpZ; split <;> (try split) <;> omega
      have e : wrap64 (-cmpZ (natOf xs) (natOf ys)) = -cmpZ (natOf xs) (natOf ys) := by unfold wrap64; omega
      refine ⟨?_, by first | exact dr1 _ _ | exact dr2 _ _ _⟩
      show Ending.returned (.int .i64 (wrap64 (-cmpZ (natOf xs) (natOf ys)))) = _
      rw [e]; rfl
end Go.Proofs.YtagfbefgcijegaaGreatDoor
