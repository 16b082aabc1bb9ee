/-
  Numbers with the room they own: contracts of nat's make, setWord, norm at any receiver.
-/
import Derived.Test.YtlpdhpfjcfihoaaGreatDoorVec2
import Derived.Test.YtlpdhpfjcfihoaaGreatDoorGA
namespace Go.Proofs.YtlpdhpfjcfihoaaGreatDoor
open Go Go.RowKit

/-- A slice of words that starts its block g and has all of it for its room. -/
def NatV (w : World) (A : Option Addr) (c g : Nat) (ws : List Nat) : Prop :=
  (A = none ∧ c = 0 ∧ ws = []) ∨ (A = some ⟨g, 0, none⟩ ∧ (0 < c ∧ c ≤ 1000000) ∧ ws.length ≤ c ∧ ∃ full, WB w g full ∧ full.length = c ∧ ws = full.take ws.length)
/-- A number that is read while block gz may be written: it lies elsewhere, or is what lies at gz's head. -/
def Opd (w : World) (gz cz : Nat) (A : Option Addr) (c : Nat) (xs : List Nat) : Prop :=
  (∀ x ∈ xs, x < B64) ∧ xs.length ≤ c ∧ (xs ≠ [] → ∃ g o, A = some ⟨g, o, none⟩ ∧ (∃ cs, Blk w g 172 cs) ∧ (∀ j (h : j < xs.length), w.cell? ⟨g, o + j, none⟩ = some (.int .u64 (xs[j] : Int))) ∧ (g ≠ gz ∨ (g = gz ∧ o = 0 ∧ c = cz)))
/-- What a function hands back that makes a number in a receiver's room. -/
def RetN (gz N : Nat) (w : World) (e : Ending) (w' : World) : Prop :=
  ∃ A c g ws, e = .returned (.slice A ws.length c) ∧ NatV w' A c g ws ∧ Norm ws ∧ natOf ws = N ∧ Only gz w w' ∧ (g = gz ∨ w.heap.size ≤ g)
/-- Where make found room. -/
def Made (gz g : Nat) (w w' : World) : Prop := (g = gz ∧ w' = w) ∨ (w.heap.size ≤ g ∧ Ext w w')
def RetMk (gz n : Nat) (w : World) (e : Ending) (w' : World) : Prop :=
  ∃ g c full, e = .returned (.slice (some ⟨g, 0, none⟩) n c) ∧ (n ≤ c ∧ c ≤ 1000000) ∧ WB w' g full ∧ full.length = c ∧ Made gz g w w'

theorem NatV.nil (w : World) (g : Nat) : NatV w none 0 g [] := Or.inl ⟨rfl, rfl, rfl⟩
theorem NatV.lt64 {w : World} {A : Option Addr} {c g : Nat} {ws : List Nat} (h : NatV w A c g ws) : ∀ x ∈ ws, x < B64 := by
  rcases h with ⟨_, _, rfl⟩ | ⟨_, _, _, full, hb, _, e⟩
  · simp
  · intro x hx; rw [e] at hx; exact hb.2 x (List.mem_of_mem_take hx)
theorem NatV.le {w : World} {A : Option Addr} {c g : Nat} {ws : List Nat} (h : NatV w A c g ws) : ws.length ≤ c := by
  rcases h with ⟨_, _, rfl⟩ | ⟨_, _, h, _⟩
  · simp
  · exact h
theorem NatV.cell {w : World} {A : Option Addr} {c g : Nat} {ws : List Nat} (h : NatV w A c g ws) (hn : ws ≠ []) : A = some ⟨g, 0, none⟩ ∧ (∃ cs, Blk w g 172 cs) ∧ ∀ j (hj : j < ws.length), w.cell? ⟨g, 0 + j, none⟩ = some (.int .u64 (ws[j] : Int)) := by
  rcases h with ⟨_, _, rfl⟩ | ⟨hA, _, _, full, hb, hl, e⟩
  · exact absurd rfl hn
  · refine ⟨hA, ⟨_, hb.1⟩, fun j hj => ?_⟩
    rw [Nat.zero_add]
    refine hb.cell j _ ?_
    have : ws[j]? = some ws[j] := List.getElem?_eq_getElem hj
    have e2 : (full.take ws.length)[j]? = full[j]? := by rw [List.getElem?_take, if_pos hj]
    rw [← e2, ← e]; exact this
theorem NatV.words {w : World} {A : Option Addr} {c g : Nat} {ws : List Nat} (h : NatV w A c g ws) : Words w A ws :=
  ⟨h.lt64, fun hn => by
    obtain ⟨hA, hb, hc⟩ := h.cell hn
    exact ⟨g, 0, hA, hb, hc⟩⟩
/-- The same room, with nothing in it. -/
theorem NatV.room {w : World} {A : Option Addr} {c g : Nat} {ws : List Nat} (h : NatV w A c g ws) : NatV w A c g [] := by
  rcases h with ⟨h1, h2, _⟩ | ⟨hA, h0, _, full, hb, hl, _⟩
  · exact Or.inl ⟨h1, h2, rfl⟩
  · exact Or.inr ⟨hA, h0, by simp, full, hb, hl, by simp⟩
theorem NatV.ext {w w' : World} {A : Option Addr} {c g : Nat} {ws : List Nat} (h : NatV w A c g ws) (e : Ext w w') : NatV w' A c g ws := by
  rcases h with h | ⟨hA, h0, hc, full, hb, hr⟩
  · exact Or.inl h
  · exact Or.inr ⟨hA, h0, hc, full, hb.ext e, hr⟩
theorem NatV.only {w w' : World} {A : Option Addr} {c g gz : Nat} {ws : List Nat} (h : NatV w A c g ws) (e : Only gz w w') (hne : A ≠ none → g ≠ gz) : NatV w' A c g ws := by
  rcases h with h | ⟨hA, h0, hc, full, hb, hr⟩
  · exact Or.inl h
  · exact Or.inr ⟨hA, h0, hc, full, hb.only e (hne (by rw [hA]; simp)), hr⟩
theorem NatV.opd {w : World} {A : Option Addr} {c g : Nat} {ws : List Nat} (h : NatV w A c g ws) (gz cz : Nat) (hs : g ≠ gz ∨ c = cz) : Opd w gz cz A c ws :=
  ⟨h.lt64, h.le, fun hn => by
    obtain ⟨hA, hb, hc⟩ := h.cell hn
    refine ⟨g, 0, hA, hb, hc, ?_⟩
    by_cases e : g = gz
    · exact Or.inr ⟨e, rfl, hs.resolve_left (fun k => k e)⟩
    · exact Or.inl e⟩
theorem opd_of_words {w : World} {A : Option Addr} {c gz cz : Nat} {xs : List Nat} (h : Words w A xs) (hl : xs.length ≤ c) (hz : ∀ a, A = some a → a.block ≠ gz) : Opd w gz cz A c xs :=
  ⟨h.1, hl, fun hn => by
    obtain ⟨g, o, hA, hb, hc⟩ := h.2 hn
    exact ⟨g, o, hA, hb, hc, Or.inl (hz _ hA)⟩⟩
theorem Opd.ext {w w' : World} {gz cz : Nat} {A : Option Addr} {c : Nat} {xs : List Nat} (h : Opd w gz cz A c xs) (e : Ext w w') : Opd w' gz cz A c xs :=
  ⟨h.1, h.2.1, fun hn => by
    obtain ⟨g, o, hA, ⟨cs, hb⟩, hc, hr⟩ := h.2.2 hn
    exact ⟨g, o, hA, ⟨cs, hb.ext e⟩, fun j hj => e.cell' (hc j hj), hr⟩⟩
theorem Opd.words {w : World} {gz cz : Nat} {A : Option Addr} {c : Nat} {xs : List Nat} (h : Opd w gz cz A c xs) : Words w A xs :=
  ⟨h.1, fun hn => by
    obtain ⟨g, o, hA, hb, hc, _⟩ := h.2.2 hn
    exact ⟨g, o, hA, hb, hc⟩⟩
/-- Behind make the operand can be read while the made room is written. -/
theorem Opd.src {w w' : World} {gz cz g : Nat} {A : Option Addr} {c : Nat} {xs : List Nat} (h : Opd w gz cz A c xs) (hn : xs ≠ []) (hm : Made gz g w w') : ∃ bx ox, A = some ⟨bx, ox, none⟩ ∧ Src w' g 0 bx ox xs := by
  obtain ⟨bx, ox, hA, ⟨cs, hb⟩, hc, hr⟩ := h.2.2 hn
  refine ⟨bx, ox, hA, h.1, ?_, ?_⟩
  · rcases hm with ⟨_, rfl⟩ | ⟨_, e⟩
    · exact hc
    · exact fun j hj => e.cell' (hc j hj)
  · rcases hm with ⟨rfl, rfl⟩ | ⟨hg, e⟩
    · rcases hr with hr | ⟨h1, h2, _⟩
      · exact Or.inl hr
      · exact Or.inr ⟨h1, h2⟩
    · have := hb.lt; exact Or.inl (by omega)
theorem Made.only {gz g : Nat} {w w1 w2 : World} (h : Made gz g w w1) (k : Only g w1 w2) : Only gz w w2 := by
  rcases h with ⟨rfl, rfl⟩ | ⟨hg, e⟩
  · exact k
  · exact Only.of_ext (Only.ext e k hg)
theorem Made.where_ {gz g : Nat} {w w1 : World} (h : Made gz g w w1) : g = gz ∨ w.heap.size ≤ g := by
  rcases h with ⟨h, _⟩ | ⟨h, _⟩
  · exact Or.inl h
  · exact Or.inr h

set_option maxRecDepth 100000 in
theorem gMake (A : Option Addr) (n0 c gz : Nat) (zs : List Nat) (n : Nat) (w : World) (hz : NatV w A c gz zs) (h1 : 1 ≤ n) (h2 : n ≤ 100001) :
    Calls Tryz.prog 209 #[.slice A n0 c, .int .i64 n] w (RetMk gz n w) := by
  by_cases hfit : n ≤ c
  · rcases hz with ⟨_, rfl, _⟩ | ⟨rfl, h0, _, full, hb, hl, _⟩
    · omega
    · have HB := Lib.hid hb; have HL := Lib.hid hl; clear hb hl
      have hd : decide ((n : Int) ≤ (c : Int)) = true := by simp; omega
      go_enter Tryz.func209, Tryz.ntmps209
      go_wp2
      go_ret
      exact ⟨gz, c, full, rfl, ⟨hfit, h0.2⟩, HB.out, HL.out, Or.inl ⟨rfl, rfl⟩⟩
  · clear hz
    have hd : decide ((n : Int) ≤ (c : Int)) = false := by simp; omega
    obtain ⟨i0, hi, hz0, hz1, hz2⟩ := info_parts infoWord
    have key : ∀ k : Nat, WB (w.alloc (.cells (Array.replicate k (.int .u64 0)) 172)) w.heap.size (List.replicate k 0) := fun k =>
      ⟨by have := blkMake w k (.int .u64 0) 172; rwa [show List.replicate k (Value.int .u64 0) = (List.replicate k 0).map wv by rw [List.map_replicate]; rfl] at this, by intro x hx; rw [List.eq_of_mem_replicate hx]; exact B64_pos⟩
    have HK := Lib.hid key; clear key
    by_cases e : n = 1
    · subst e
      have hmk : ∀ w, (Instr.makeSlice 150 (.int .i64 1) (.int .i64 1)).run Tryz.prog w = .ok (.slice (some ⟨w.heap.size, 0, none⟩) 1 1) (w.alloc (.cells #[.int .u64 0] 172)) := fun _ => by kernel_rfl
      have hd' : decide ((1 : Int) ≤ (c : Int)) = false := by simp; omega
      clear hd hfit
      go_enter Tryz.func209, Tryz.ntmps209
      go_wp2
      go_ret
      exact ⟨w.heap.size, 1, [0], rfl, ⟨Nat.le_refl _, by omega⟩, HK.out 1, rfl, Or.inr ⟨Nat.le_refl _, Ext.alloc' _ _⟩⟩
    · have e1 : ((n : Int) == 1) = false := by simp; omega
      have hmk : ∀ W : World, (Instr.makeSlice 150 (.int .i64 (n : Int)) (.int .i64 ((n : Int) + 4))).run Tryz.prog W = .ok (.slice (some ⟨W.heap.size, 0, none⟩) n (n + 4)) (W.alloc (.cells (Array.replicate (n + 4) (.int .u64 0)) 172)) := fun W => by
        rw [run_make (P := Tryz.prog) W 150 172 i0 (.int .u64 0) Tryz.underlying150 hi hz0 .i64 .i64 (n : Int) ((n : Int) + 4) (by omega) (by omega) (by rw [hz2]; omega) (by omega), hz1]
        have e2 : ((n : Int) + 4).toNat * 1 = n + 4 := by omega
        have e3 : madeCells (Value.cells (.int .u64 0)) (n + 4) = (List.replicate (n + 4) (Value.int .u64 0)).toArray := by
          rw [← toList_madeCells_one]; rfl
        rw [e2, e3, List.toArray_replicate]; congr 2
      go_enter Tryz.func209, Tryz.ntmps209
      go_wp2
      go_ret
      exact ⟨w.heap.size, n + 4, _, rfl, by omega, HK.out (n + 4), by simp, Or.inr ⟨Nat.le_refl _, Ext.alloc' _ _⟩⟩

/-- The room cut to nothing. -/
theorem retN_zero {w : World} {A : Option Addr} {c gz : Nat} {zs : List Nat} (hz : NatV w A c gz zs) : RetN gz 0 w (.returned (.slice A 0 c)) w :=
  ⟨A, c, gz, [], rfl, hz.room, norm_nil, rfl, Only.refl _ _, Or.inl rfl⟩
/-- What norm leaves of words that were written. -/
theorem norm_end {gz g c : Nat} {w w1 w2 : World} {full ds es : List Nat} {N : Nat} (hm : Made gz g w w1) (ho : Only g w1 w2) (hb : WB w2 g (over full 0 ds)) (hl : full.length = c) (hc : 0 < c ∧ c ≤ 1000000) (hd : ds.length ≤ c) (he : es = ds.take es.length) (hN : Norm es) (hv : natOf es = natOf ds) (hN2 : natOf ds = N) :
    RetN gz N w (.returned (.slice (some ⟨g, 0, none⟩) es.length c)) w2 := by
  have hel : es.length ≤ ds.length := by
    have := congrArg List.length he
    simp only [List.length_take] at this; omega
  refine ⟨_, c, g, es, rfl, Or.inr ⟨rfl, hc, by omega, _, hb, by rw [over_length (by omega)]; exact hl, ?_⟩, hN, by rw [hv, hN2], hm.only ho, hm.where_⟩
  rw [he]
  unfold over
  simp only [List.take_zero, List.nil_append]
  rw [List.length_take, Nat.min_eq_left hel, List.take_append_of_le_length hel]
theorem wb_cells {w : World} {g : Nat} {full ds : List Nat} (hb : WB w g (over full 0 ds)) (hd : ds.length ≤ full.length) : ∀ j (h : j < ds.length), w.cell? ⟨g, 0 + j, none⟩ = some (.int .u64 (ds[j] : Int)) := fun j h => by
  rw [Nat.zero_add]
  refine hb.cell j _ ?_
  rw [over_get (by omega), if_neg (by omega), if_pos (by omega)]
  exact List.getElem?_eq_getElem h

set_option maxRecDepth 100000 in
theorem gSetWord (A : Option Addr) (n0 c gz : Nat) (zs : List Nat) (x : Nat) (w : World) (hz : NatV w A c gz zs) (hx : x < B64) :
    Calls Tryz.prog 198 #[.slice A n0 c, .int .u64 x] w (RetN gz x w) := by
  by_cases h0 : x = 0
  · subst h0
    have HR := Lib.hid (retN_zero hz)
    rcases hz with ⟨rfl, rfl, _⟩ | ⟨rfl, hc, _⟩
    · go_enter Tryz.func198, Tryz.ntmps198
      go_wp2
      go_ret
      exact HR.out
    · go_enter Tryz.func198, Tryz.ntmps198
      go_wp2
      go_ret
      exact HR.out
  · have e0 : ((x : Int) == 0) = false := by simp; omega
    have H := Lib.hid (gMake A n0 c gz zs 1 w hz (Nat.le_refl _) (by omega))
    clear hz
    go_enter Tryz.func198, Tryz.ntmps198
    go_wp2_with (fail)
    go_at_call 209
    refine H.out.mono ?_
    rintro e w1 ⟨g, c', full, rfl, hc, hb, hl, hm⟩
    obtain ⟨old, hold⟩ : ∃ old, w1.cell? ⟨g, 0, none⟩ = some old := ⟨_, hb.cell 0 _ (List.getElem?_eq_getElem (by omega))⟩
    have hfz := hb.frozen 0
    have HB := Lib.hid hb; have HL := Lib.hid hl; have HM := Lib.hid hm; clear hb hl hm
    go_wp2
    go_ret
    have hs := HB.out.set_ 0 x hx
    rw [show full.set 0 x = over full 0 [x] by have := over_snoc (ws := full) (o := 0) (ds := []) x (by simp; have := HL.out; omega); rwa [over_nil] at this] at hs
    exact norm_end (es := [x]) HM.out ((Only.refl _ _).set_ _ _) hs HL.out (by omega) (by simp; omega) (by simp) (by intro y hy; simp at hy; omega) rfl (natOf_one x)
end Go.Proofs.YtlpdhpfjcfihoaaGreatDoor
