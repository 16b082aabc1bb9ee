/-
  The laws' rateName; names registered in their order: which one is the base.
-/
import Derived.Test.YtcoffndnfaemoaaGreatDoorHQ
import Derived.Test.YtcoffndnfaemoaaGreatDoorGT
namespace Go.Proofs.YtcoffndnfaemoaaGreatDoor
open Go Go.RowKit

/-- A name of 3 to 8 small letters is a denomination. -/
def NameOk (s : ByteArray) : Prop := denomB s = true ∧ s ≠ ⟨#[]⟩ ∧ s.size ≤ 8
theorem nameOk_mk {s : ByteArray} (h1 : 3 ≤ s.size) (h2 : s.size ≤ 8) (h : ∀ j, (hj : j < s.size) → 97 ≤ s[j].toNat ∧ s[j].toNat ≤ 122) : NameOk s := by
  refine ⟨denomB_true h1 (by omega) (fun j hj => okAt_letter (by have := h j hj; unfold letterN; simp; omega)), ?_, h2⟩
  rintro rfl
  exact absurd h1 (by decide)
def RetIfW (p : Prop) (w : World) (e : Ending) (w' : World) : Prop := ∃ r : Bool, e = .returned (.bool r) ∧ (r = true → p) ∧ w' = w
set_option maxRecDepth 100000 in
theorem lRateName (s : ByteArray) (w : World) (hs : s.size ≤ 9223372036854775807) : Calls Tryz.prog 25 #[.string s] w (RetIfW (NameOk s) w) := by
  go_enter Tryz.func25, Tryz.ntmps25
  go_wp2
  go_loop [3] (fun i => ∃ k : Nat, k ≤ s.size ∧ k ≤ 9 ∧ i = .int .i64 k ∧ ∀ j, (h : j < s.size) → j < k → 97 ≤ s[j].toNat ∧ s[j].toNat ≤ 122) (fun i => s.size - (intOf i).toNat)
  case atStart => exact ⟨0, Nat.zero_le _, by omega, rfl, fun j hj h => by omega⟩
  case round =>
    obtain ⟨k, hk, hk9, rfl, hq⟩ := hrel
    have HQ := Lib.hid hq; clear hq
    by_cases hlt : k < s.size
    · by_cases h9 : k < 9
      · obtain ⟨v, hv⟩ : ∃ v : Nat, s[k].toNat = v := ⟨_, rfl⟩
        have hrunk : ∀ W, (Instr.index 9 (.string s) (.int .i64 (k : Int))).run Tryz.prog W = .ok (.int .u8 (v : Int)) W := fun W => by subst hv; simp [go_sem, hlt]
        have HV := Lib.hid hv; clear hv
        have a1 : ((k : Int) < (s.size : Int)) := by omega
        have a2 : ((k : Int) < 9) := by omega
        by_cases h1 : v < 97
        · have b1 : ((v : Int) < 97) := by omega
          clear h1
          go_wp2
          go_ret
          exact ⟨false, rfl, (fun h => by cases h), rfl⟩
        · have b1 : (97 : Int) ≤ (v : Int) := by omega
          by_cases h2 : 122 < v
          · have b2 : (122 : Int) < (v : Int) := by omega
            clear h1 h2
            go_wp2
            go_ret
            exact ⟨false, rfl, (fun h => by cases h), rfl⟩
          · have b2 : (v : Int) ≤ 122 := by omega
            have HN := Lib.hid (show 97 ≤ v ∧ v ≤ 122 by omega)
            clear h1 h2
            go_wp2
            go_round
            · refine ⟨k + 1, by omega, by omega, by go_num, fun j hj hjk => ?_⟩
              by_cases e : j = k
              · subst e; rw [HV.out]; exact HN.out
              · exact HQ.out j hj (by omega)
            · simp [intOf]; omega
      · obtain rfl : k = 9 := by omega
        have a1 : ((9 : Int) < (s.size : Int)) := by omega
        have a3 : (3 : Int) ≤ (s.size : Int) := by omega
        have a4 : (8 : Int) < (s.size : Int) := by omega
        go_wp2
        go_ret
        exact ⟨_, rfl, (fun h => by simp at h <;> omega), rfl⟩
    · obtain rfl : k = s.size := by omega
      by_cases h3 : 3 ≤ s.size
      · have a3 : (3 : Int) ≤ (s.size : Int) := by omega
        by_cases h8 : s.size ≤ 8
        · have a4 : (s.size : Int) ≤ 8 := by omega
          have HNM := Lib.hid (nameOk_mk h3 h8 (fun j hj => HQ.out j hj hj))
          go_wp2
          go_ret
          exact ⟨_, rfl, (fun _ => HNM.out), rfl⟩
        · have a4 : (8 : Int) < (s.size : Int) := by omega
          go_wp2
          go_ret
          exact ⟨_, rfl, (fun h => by simp at h <;> omega), rfl⟩
      · have a3 : (s.size : Int) < 3 := by omega
        go_wp2
        go_ret
        exact ⟨_, rfl, (fun h => by simp at h <;> omega), rfl⟩

theorem unitOf_mem {U : List (ByteArray × Int)} (h : ∀ p ∈ U, ∀ q ∈ U, p.1 = q.1 → p = q) {s : ByteArray} {z : Int} (hm : (s, z) ∈ U) : unitOf U s = some z := by
  unfold unitOf
  cases hf : U.find? (fun x => decide (x.1 = s)) with
  | none =>
    have := List.find?_eq_none.1 hf (s, z) hm
    simp at this
  | some p =>
    have h1 := List.find?_some hf
    have h2 := List.mem_of_find?_eq_some hf
    have : p = (s, z) := h p h2 (s, z) hm (by simpa using h1)
    rw [this]; rfl
theorem unitOf_none {U : List (ByteArray × Int)} {s : ByteArray} (h : ∀ p ∈ U, p.1 ≠ s) : unitOf U s = none := by
  unfold unitOf
  rw [List.find?_eq_none.2 (fun p hp => by simpa using h p hp)]; rfl
def regS (x : DP) : St := St.plain 0 x.1 x.2.1 x.2.2
def base3 : St := St.plain 3 ⟨#[]⟩ 0 0
def stepsK (l : List DP) : List St := base3 :: l.map regS
def rg0 : Rg := ⟨[], ⟨#[]⟩⟩
/-- The registry behind these: the base is the m-th name. -/
structure GoodK (l : List DP) (m : Nat) : Prop where
  U : (rg0.after (stepsK l)).U = l.map dval
  nil : l = [] → m = 0 ∧ (rg0.after (stepsK l)).base = ⟨#[]⟩
  base : l ≠ [] → ∃ h : m < l.length, (rg0.after (stepsK l)).base = l[m].1
  inj : ∀ p ∈ l, ∀ q ∈ l, p.1 = q.1 → p = q
  ne : ∀ p ∈ l, p.1 ≠ ⟨#[]⟩
theorem goodK_nil : GoodK [] 0 := ⟨rfl, fun _ => ⟨rfl, rfl⟩, fun h => absurd rfl h, fun _ h => (by cases h), fun _ h => (by cases h)⟩
theorem stepsK_snoc (l : List DP) (x : DP) : stepsK (l ++ [x]) = stepsK l ++ [regS x] := by simp [stepsK]
theorem GoodK.snoc {l : List DP} {m m' : Nat} {x : DP} (h : GoodK l m) (hx : ∀ y ∈ l, y.1 ≠ x.1) (hn : NameOk x.1) (hz : 0 < decV x.2.1 x.2.2)
    (hm : (l = [] ∧ m' = 0) ∨ ∃ h : m < l.length, (decV x.2.1 x.2.2 < decV l[m].2.1 l[m].2.2 ∧ m' = l.length) ∨ (¬ decV x.2.1 x.2.2 < decV l[m].2.1 l[m].2.2 ∧ m' = m)) : GoodK (l ++ [x]) m' := by
  have hu : unitOf (rg0.after (stepsK l)).U x.1 = none := by
    rw [h.U]; refine unitOf_none fun p hp => ?_
    obtain ⟨y, hy, rfl⟩ := List.mem_map.1 hp
    exact hx y hy
  have hst : rg0.after (stepsK (l ++ [x])) = ((rg0.after (stepsK l)).reg x.1 (decV x.2.1 x.2.2)).2 := by
    rw [stepsK_snoc, Rg.after_snoc]
    unfold Rg.step regS St.plain
    simp only [if_pos, if_pos hz]
  have hreg : (rg0.after (stepsK (l ++ [x]))) = ⟨l.map dval ++ [(x.1, decV x.2.1 x.2.2)], if (rg0.after (stepsK l)).base = ⟨#[]⟩ ∨ decV x.2.1 x.2.2 < (unitOf (rg0.after (stepsK l)).U (rg0.after (stepsK l)).base).getD 0 then x.1 else (rg0.after (stepsK l)).base⟩ := by
    rw [hst]; unfold Rg.reg; rw [if_pos ⟨hn.1, hu⟩, h.U]
  refine ⟨by rw [hreg]; simp [dval], fun e => by simp at e, fun _ => ?_, ?_, ?_⟩
  · rw [hreg]
    simp only
    rcases hm with ⟨rfl, rfl⟩ | ⟨hml, hc⟩
    · refine ⟨by simp, ?_⟩
      rw [if_pos (Or.inl (h.nil rfl).2)]; rfl
    · obtain ⟨_, hb⟩ := h.base (by rintro rfl; simp at hml)
      have hbu : unitOf (rg0.after (stepsK l)).U (rg0.after (stepsK l)).base = some (decV l[m].2.1 l[m].2.2) := by
        rw [h.U, hb]
        refine unitOf_mem (fun p hp q hq e => ?_) ?_
        · obtain ⟨y, hy, rfl⟩ := List.mem_map.1 hp
          obtain ⟨y', hy', rfl⟩ := List.mem_map.1 hq
          rw [h.inj y hy y' hy' e]
        · exact List.mem_map.2 ⟨l[m], List.getElem_mem _, rfl⟩
      have hbn : (rg0.after (stepsK l)).base ≠ ⟨#[]⟩ := by rw [hb]; exact h.ne _ (List.getElem_mem _)
      rw [hbu, Option.getD_some]
      rcases hc with ⟨hlt, rfl⟩ | ⟨hge, rfl⟩
      · refine ⟨by simp, ?_⟩
        rw [if_pos (Or.inr hlt), List.getElem_append_right (Nat.le_refl _)]; simp
      · refine ⟨by simp; omega, ?_⟩
        rw [if_neg (by rintro (e | e); exact hbn e; exact hge e), hb, List.getElem_append_left hml]
  · intro p hp q hq e
    rcases List.mem_append.1 hp with hp | hp <;> rcases List.mem_append.1 hq with hq | hq
    · exact h.inj p hp q hq e
    · rw [List.mem_singleton.1 hq] at e; exact absurd e (hx p hp)
    · rw [List.mem_singleton.1 hp] at e; exact absurd e.symm (hx q hq)
    · rw [List.mem_singleton] at hp hq; rw [hp, hq]
  · intro p hp
    rcases List.mem_append.1 hp with hp | hp
    · exact h.ne p hp
    · rw [List.mem_singleton] at hp; subst hp; exact hn.2.1
theorem goodK_len {l : List DP} : (stepsK l).length = l.length + 1 := by simp [stepsK]
/-- The answers, base asked first and last. -/
theorem GoodK.answers {l : List DP} {m : Nat} (h : GoodK l m) (hl : l ≠ []) : ∃ hm : m < l.length, (rg0.answers (stepsK l ++ [base3])).length = l.length + 2 ∧
    (∀ h0 : 0 < (rg0.answers (stepsK l ++ [base3])).length, (rg0.answers (stepsK l ++ [base3]))[0].ok = false) ∧
    (∀ h1 : l.length + 1 < (rg0.answers (stepsK l ++ [base3])).length, (rg0.answers (stepsK l ++ [base3]))[l.length + 1].ok = true ∧ (rg0.answers (stepsK l ++ [base3]))[l.length + 1].denom = l[m].1) := by
  obtain ⟨hm, hb⟩ := h.base hl
  refine ⟨hm, by rw [Rg.answers_length]; simp [goodK_len], fun h0 => rfl, fun h1 => ?_⟩
  have e : rg0.answers (stepsK l ++ [base3]) = rg0.answers (stepsK l) ++ [((rg0.after (stepsK l)).step base3).1] := Rg.answers_snoc _ _ _
  have hlen : (rg0.answers (stepsK l)).length = l.length + 1 := by rw [Rg.answers_length, goodK_len]
  have hx : (rg0.answers (stepsK l ++ [base3]))[l.length + 1] = ((rg0.after (stepsK l)).step base3).1 := by
    simp only [e]
    rw [List.getElem_append_right (by omega)]; simp [hlen]
  rw [hx]
  have hs : ((rg0.after (stepsK l)).step base3).1 = ⟨decide ((rg0.after (stepsK l)).base ≠ ⟨#[]⟩), (rg0.after (stepsK l)).base, 0, 0⟩ := by
    unfold Rg.step base3 St.plain
    rw [if_neg (show ¬ (3 : Int) = 0 by decide), if_neg (show ¬ (3 : Int) = 1 by decide)]
  rw [hs]
  refine ⟨decide_eq_true ?_, hb⟩
  rw [hb]; exact h.ne _ (List.getElem_mem _)
end Go.Proofs.YtcoffndnfaemoaaGreatDoor
