/-
  Contracts of what reads a big integer: Sign, Bits, Cmp, IsInt64, Int64.
-/
import Derived.Test.YtagfbefgcijegaaDoorInt
namespace Go.Proofs.YtagfbefgcijegaaDoor
open Go Go.RowKit

def sgn (z : Int) : Int := if z < 0 then -1 else if 0 < z then 1 else 0
theorem natOf_pos {ws : List Nat} (hN : Norm ws) (h : ws ≠ []) : 0 < natOf ws := by
  rcases Nat.eq_zero_or_pos (natOf ws) with e | e
  · exact absurd ((nil_iff hN).1 e) h
  · exact e

set_option maxRecDepth 100000 in
theorem intSign (v : Value) (z : Int) (w : World) (hv : IsBig w v z) : Calls Tryd.prog 67 #[v] w fun e w' => e = .returned (.int .i64 (sgn z)) ∧ w' = w := by
  obtain ⟨x, rfl, A, c, ws, neg, hx, hw, hl, hN, h0, rfl⟩ := hv
  have c0 : w.cell? ⟨x, 0, none⟩ = some (.bool neg) := (hx.cell 0).trans rfl
  have c1 : w.cell? ⟨x, 1, none⟩ = some (.slice A ws.length c) := (hx.cell 1).trans rfl
  clear hx hw
  rcases List.eq_nil_or_concat ws with rfl | ⟨l, a, e⟩
  · have F := Lib.hid (show sgn (bigVal neg []) = 0 by rw [h0 rfl]; rfl)
    clear h0 hN
    simp only [List.length_nil] at c1
    go_enter Tryd.func67, Tryd.ntmps67
    go_wp2
    go_ret
    rw [F.out]; exact ⟨rfl, rfl⟩
  · have hne : ws ≠ [] := by rw [e]; simp
    have hp := natOf_pos hN hne
    obtain ⟨n, hl'⟩ : ∃ n, ws.length = n := ⟨_, rfl⟩
    have hn : 0 < n := by rw [← hl']; exact List.length_pos_iff.2 hne
    rw [hl'] at c1
    have e0 : ((n : Int) == 0) = false := by simp; omega
    have F := Lib.hid (show sgn (bigVal neg ws) = if neg then -1 else 1 by cases neg <;> simp [sgn, bigVal] <;> omega)
    clear h0 hN e hne hl hl'
    cases neg
    all_goals
      go_enter Tryd.func67, Tryd.ntmps67
      go_wp2
      go_ret
      rw [F.out]; exact ⟨rfl, rfl⟩

set_option maxRecDepth 100000 in
theorem natLow (A : Option Addr) (c : Nat) (ws : List Nat) (w : World) (hw : Words w A ws) (hl : ws.length ≤ 1) : Calls Tryd.prog 60 #[.slice A ws.length c] w fun e w' => e = .returned (.int .u64 (natOf ws : Int)) ∧ w' = w := by
  match ws, hl with
  | [], _ =>
    clear hw
    go_enter Tryd.func60, Tryd.ntmps60
    go_wp2
    go_ret
    exact ⟨rfl, rfl⟩
  | [a], _ =>
    obtain ⟨g, o, rfl, hc⟩ := hw.get (by simp)
    have c0 : w.cell? ⟨g, o, none⟩ = some (.int .u64 (a : Int)) := hc 0 (by simp)
    have F := Lib.hid (natOf_one a)
    clear hw hc
    go_enter Tryd.func60, Tryd.ntmps60
    go_wp2
    go_ret
    rw [F.out]; exact ⟨rfl, rfl⟩

def maxI : Int := 9223372036854775807
theorem i64_conv (n : Nat) (h : (n : Int) ≤ maxI) : IntKind.i64.wrap (n : Int) = n := by rw [IntKind.wrap_i64]; unfold maxI at h; omega

set_option maxRecDepth 100000 in
theorem intInt64 (v : Value) (z : Int) (w : World) (hv : IsBig w v z) (h0 : -maxI ≤ z) (h1 : z ≤ maxI) : Calls Tryd.prog 44 #[v] w fun e w' => e = .returned (.int .i64 z) ∧ w' = w := by
  obtain ⟨x, rfl, A, c, ws, neg, hx, hw, hl, hN, hz, rfl⟩ := hv
  have c0 : w.cell? ⟨x, 0, none⟩ = some (.bool neg) := (hx.cell 0).trans rfl
  have c1 : w.cell? ⟨x, 1, none⟩ = some (.slice A ws.length c) := (hx.cell 1).trans rfl
  have hle : (natOf ws : Int) ≤ maxI := by cases neg <;> simp [bigVal] at h0 h1 <;> omega
  have hlen : ws.length ≤ 1 := len_le_one hN (by unfold maxI at hle; unfold B64; omega)
  have HL := Lib.hid (natLow A c ws w hw hlen)
  have E := i64_conv _ hle
  obtain ⟨m, hm⟩ : ∃ m, m = natOf ws := ⟨_, rfl⟩
  rw [← hm] at HL E
  have E' : wrap64 (m : Int) = m := by rw [wrap64, ← IntKind.wrap_i64]; exact E
  have E2 : wrap64 (-(m : Int)) = -(m : Int) := by unfold wrap64; rw [← hm] at hle; unfold maxI at hle; omega
  have F := Lib.hid (show bigVal neg ws = if neg then -(m : Int) else m by rw [hm]; rfl)
  clear hx hw hN hz hl hlen hm h0 h1 hle
  have HE := Lib.hid E; have HE' := Lib.hid E'; have HE2 := Lib.hid E2; clear E E' E2
  cases neg
  all_goals
    go_enter Tryd.func44, Tryd.ntmps44
    go_wp2_with (go_at_call 60; refine HL.out.mono ?_; rintro e w' ⟨rfl, rfl⟩)
    go_ret
    refine ⟨?_, rfl⟩
    rw [F.out]
    first
    | (show Ending.returned (.int .i64 (wrap64 (-wrap64 (m : Int)))) = _; rw [HE'.out, HE2.out]; simp; done)
    | (show Ending.returned (.int .i64 (wrap64 (m : Int))) = _; rw [HE'.out]; simp)

set_option maxRecDepth 100000 in
theorem intIsInt64 (v : Value) (z : Int) (w : World) (hv : IsBig w v z) (h0 : -maxI ≤ z) (h1 : z ≤ maxI) : Calls Tryd.prog 43 #[v] w fun e w' => e = .returned (.bool true) ∧ w' = w := by
  obtain ⟨x, rfl, A, c, ws, neg, hx, hw, hl, hN, hz, rfl⟩ := hv
  have c0 : w.cell? ⟨x, 0, none⟩ = some (.bool neg) := (hx.cell 0).trans rfl
  have c1 : w.cell? ⟨x, 1, none⟩ = some (.slice A ws.length c) := (hx.cell 1).trans rfl
  have hle : (natOf ws : Int) ≤ maxI := by cases neg <;> simp [bigVal] at h0 h1 <;> omega
  have hlen : ws.length ≤ 1 := len_le_one hN (by unfold maxI at hle; unfold B64; omega)
  have HL := Lib.hid (natLow A c ws w hw hlen)
  obtain ⟨m, hm⟩ : ∃ m, m = natOf ws := ⟨_, rfl⟩
  rw [← hm] at HL
  have E' : 0 ≤ wrap64 (m : Int) := by unfold wrap64; rw [← hm] at hle; unfold maxI at hle; omega
  have E2 : decide (0 ≤ wrap64 (m : Int)) = true := by simpa using E'
  obtain ⟨n, hn⟩ : ∃ n, ws.length = n := ⟨_, rfl⟩
  rw [hn] at c1 HL hlen
  have e1 : decide (n ≤ 1) = true := by simpa using hlen
  clear hx hw hN hz hl hm h0 h1 hle hn
  go_enter Tryd.func43, Tryd.ntmps43
  go_wp2_with (go_at_call 60; refine HL.out.mono ?_; rintro e w' ⟨rfl, rfl⟩)
  go_ret
  exact ⟨rfl, rfl⟩

set_option maxRecDepth 100000 in
theorem intBits (v : Value) (z : Int) (w : World) (hv : IsBig w v z) (hz : z.natAbs < B64) : Calls Tryd.prog 74 #[v] w fun e w' => (∃ A n c, n ≤ 1 ∧ e = .returned (.slice A n c)) ∧ w' = w := by
  obtain ⟨x, rfl, A, c, ws, neg, hx, hw, hl, hN, h0, rfl⟩ := hv
  have c1 : w.cell? ⟨x, 1, none⟩ = some (.slice A ws.length c) := (hx.cell 1).trans rfl
  have hlen := len_le_one hN (by rw [natAbs_bigVal] at hz; exact hz)
  clear hx hw h0 hN hz
  go_enter Tryd.func74, Tryd.ntmps74
  go_wp2
  go_ret
  exact ⟨⟨A, ws.length, c, hlen, rfl⟩, rfl⟩

theorem cmpZ_flip (s : Bool) (a b : Nat) : (if s then -cmpZ a b else cmpZ a b) = cmpZ (if s then -(a : Int) else a) (if s then -(b : Int) else b) := by
  cases s
  · rfl
  · simp only [if_true]; unfold cmpZ; split <;> split <;> (try split) <;> (try split) <;> omega

theorem quietQ {P : Program} {f : FuncId} {args : Array Value} {w : World} {a n : Nat} {v : Value} (h : Calls P f args (w.drewN (a + n)) (RetQ v (w.drewN (a + n)))) :
    Calls P f args (w.drewN (a + n)) fun e w'' => e = .returned v ∧ ∃ m, w'' = w.drewN (a + m) :=
  h.mono fun _ _ ⟨he, m, hm⟩ => ⟨he, n + m, by rw [hm, World.drewN_drewN, Nat.add_assoc]⟩

end Go.Proofs.YtagfbefgcijegaaDoor
