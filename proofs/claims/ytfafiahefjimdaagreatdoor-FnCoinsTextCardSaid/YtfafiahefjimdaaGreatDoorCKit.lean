/-
  What every card of this seat uses: lists of records opened, arguments read again where nothing old has turned, the world of the witness.
-/
import Derived.Test.YtfafiahefjimdaaGreatDoorGC
import Derived.Test.YtfafiahefjimdaaGreatDoorCards
import Derived.Test.YtfafiahefjimdaaGreatDoorTie
import Derived.WalkKit
import Derived.ProofKit
import Derived.OpenShut
import Derived.Carry
import Derived.Deep.SlicePairs
import Derived.Deep.DeepHandedRow
import Derived.Deep.DeepWitnessRowRef
import Derived.Lib.LaidTab
namespace Go.Proofs.YtfafiahefjimdaaGreatDoor
open Go.ChangeShapes Go.WideShapes Go.ChangeAt Go.RowKit Go

section
variable {H : Type} {enc : TypeId × Value → H} {P : Program}
/-- The row's last step, where of the world behind the call it is known that nothing that was there has turned. -/
theorem post_below {f : Func} {s : ChangeSpec} {apart fresh handsOn again : Bool} {W W' : World} {args : Array Value} {v : Value} {ds gs : List (DataW H)} {before pa pv : List MemPlace}
    (hW : DataW.Whole enc P f.params.toList s.vars apart W args.toList ds gs before)
    (hres : ∀ (b : Nat) (sp : Nat → Bool) (hd : Bool), DataW.TrodAll enc P W' b sp hd f.resultTypes.toList (v.resultList f.resultTypes.size) (s.fn H (ds ++ gs)).results [])
    (hargs : ∀ sp : Nat → Bool, (∀ p ∈ before, sp p.block = true) → DataW.TrodAll enc P W' 0 sp true f.params.toList args.toList (s.fn H (ds ++ gs)).args pa)
    (hvars : ∀ sp : Nat → Bool, (∀ p ∈ before, sp p.block = true) → DataW.TrodVars enc P W' sp s.vars (s.fn H (ds ++ gs)).vars pv)
    (hps : before = pa ++ pv) (hb : Below W.heap.size W W')
    (hok : ∀ (j : Nat) (t : TypeId) (r : Value), f.resultTypes[j]? = some t → (v.resultList f.resultTypes.size)[j]? = some r → Value.okWide P W' .any 0 t r) :
    s.post enc P f apart fresh handsOn again W args v W' := by
  have hlt : ∀ p ∈ before, p.block < W.heap.size := fun p hp => hW.lt p hp
  have hold : ∀ p ∈ before, (fun b => decide (b < W.heap.size)) p.block = true := fun p hp => by simpa using hlt p hp
  refine ⟨ds, gs, before, [], pa, pv, hW, hres _ _ _, hargs _ hold, hvars _ hold, World.keptBut_mono (fun p hp => ⟨hp, ?_⟩) (hb.frame (· ∈ before)), fun _ => ?_⟩
  · rw [hps, List.mem_append] at hp
    exact Or.inr hp
  · obtain ⟨_, _, _, _, _, hz, hn⟩ := hW
    refine ⟨hok, _, _, ([] ++ pa) ++ pv, ⟨[] ++ pa, pv, trodAll_append (hargs _ (fun _ _ => rfl)) (hres _ _ _), hvars _ (fun _ _ => rfl), rfl, ?_, ?_⟩, ?_⟩
    · intro b off hp
      have hin : MemPlace.cell b off ∈ before := by rw [hps]; simpa using hp
      rw [hb.frozen (hlt _ hin)]
      exact hz b off hin
    · intro ha
      have := hn ha
      rw [hps] at this
      simpa using this
    · intro p hp _
      rw [hps]
      simpa using hp

/-- Arguments read again where nothing old has turned. -/
theorem args_stay (hl : laidOutB P = true) {W W' : World} {sp : Nat → Bool} (hb : Below W.heap.size W W') : ∀ {ts : List TypeId} {vs : List Value} {ds : List (DataW H)} {ps : List MemPlace}, (∀ t ∈ ts, P.readableRec t = true ∧ t < P.types.size) →
    DataW.TrodAll enc P W 0 (fun _ => true) true ts vs ds ps → (∀ p ∈ ps, p.block < W.heap.size) → (∀ p ∈ ps, sp p.block = true) → DataW.TrodAll enc P W' 0 sp true ts vs ds ps
  | [], [], [], _, _, h, _, _ => h
  | _ :: _, _ :: _, _ :: _, _, hT, ⟨p, q, h1, h2, e⟩, hlt, hs =>
    ⟨p, q, WideElems.Trod_stays hl (hT _ (List.mem_cons.2 (Or.inl rfl))).1 (hT _ (List.mem_cons.2 (Or.inl rfl))).2 h1 (fun x hx => hb.same (hlt x (by rw [e]; exact List.mem_append_left _ hx))) (fun x hx => hs x (by rw [e]; exact List.mem_append_left _ hx)),
      args_stay hl hb (fun t ht => hT t (List.mem_cons.2 (Or.inr ht))) h2 (fun x hx => hlt x (by rw [e]; exact List.mem_append_right _ hx)) (fun x hx => hs x (by rw [e]; exact List.mem_append_right _ hx)), e⟩
end

theorem list_of {α : Type} {Q : Nat → α → Prop} : ∀ n, (∀ i, i < n → ∃ x, Q i x) → ∃ l : List α, l.length = n ∧ ∀ j (h : j < l.length), Q j l[j]
  | 0, _ => ⟨[], rfl, fun j h => by simp at h⟩
  | n + 1, h => by
    obtain ⟨l, hl, hq⟩ := list_of n (fun i hi => h i (by omega))
    obtain ⟨x, hx⟩ := h n (by omega)
    refine ⟨l ++ [x], by simp [hl], fun j hj => ?_⟩
    by_cases e : j < l.length
    · rw [List.getElem_append_left e]; exact hq j e
    · obtain rfl : j = l.length := by simp at hj; omega
      rw [List.getElem_append_right (by omega)]; simp; rw [hl]; exact hx

theorem spot_none {w : World} {a : Addr} {v : Value} (h : w.cell? a = some v) : a = ⟨a.block, a.off, none⟩ := by
  obtain ⟨b, o, s⟩ := a
  cases s with
  | none => rfl
  | some s => unfold World.cell? at h; simp at h; split at h <;> simp at h

set_option maxRecDepth 100000 in
/-- A list of records among the arguments. -/
theorem open_plain {H : Type} {enc : TypeId × Value → H} {W : World} {v : Value} {d : DataW H} {ps : List MemPlace} {base : Nat} (hv : Value.okWide Tryz.prog W .any base 93 v) (h : DataW.Trod enc Tryz.prog W 0 (fun _ => true) true 93 v d ps) :
    ∃ A n c l, v = .slice A n c ∧ l.length = n ∧ n ≤ maxLen ∧ PlainAt W A l := by
  obtain ⟨A, n, c, rfl⟩ := okWide_slice Tryz.underlying93 hv
  obtain ⟨fuel, hf⟩ := h
  rcases Go.Deep.open_slice_pairs Tryz.underlying93 Tryz.underlying86 (by kernel_rfl) rfl rfl (by kernel_rfl) (by kernel_rfl) hf with ⟨hcs, _⟩ | ⟨a, len, cap, m, k, V0, V1, D0, D1, P0, P1, hcs, _, hl, hm, hmm, _, hx⟩
  · simp [Value.cells] at hcs
    obtain ⟨rfl, rfl, rfl⟩ := hcs
    exact ⟨none, 0, 0, [], rfl, rfl, Nat.zero_le _, fun h => absurd rfl h⟩
  · simp [Value.cells] at hcs
    obtain ⟨rfl, rfl, rfl⟩ := hcs
    rw [if_pos rfl] at hmm
    obtain ⟨l, hll, hq⟩ := list_of (Q := fun i (x : ByteArray × Int) => W.cell? (a.add (i * 2)) = some (.string x.1) ∧ W.cell? (a.add (i * 2 + 1)) = some (.int .i64 x.2)) n (fun i hi => by
      obtain ⟨h0, h1, h2, h3⟩ := hx i (by omega)
      obtain ⟨s, e0, _, _⟩ := DataW.trod_string Tryz.underlying9 h2
      obtain ⟨z, e1, _, _⟩ := DataW.trod_int Tryz.underlying2 h3
      simp only [List.cons.injEq, and_true] at e0 e1
      exact ⟨(s, z), by rw [h0, e0], by rw [h1, e1]⟩)
    refine ⟨some a, n, c, l, rfl, hll, by omega, fun hne => ?_⟩
    have hpos : 0 < l.length := List.length_pos_iff.2 (by intro e; subst e; exact hne rfl)
    have hsp := spot_none (show W.cell? a = some _ from by have := (hq 0 hpos).1; simpa [Addr.add] using this)
    refine ⟨a.block, a.off, by rw [← hsp], fun j hj => ?_⟩
    have hjl : j < l.length := by simpa using hj
    have hadd : ∀ i, a.add i = ⟨a.block, a.off + i, none⟩ := by
      intro i; unfold Addr.add; split
      · subst i; simpa using hsp
      · rfl
    have h1 := hq j hjl
    rw [hadd, hadd] at h1
    refine ⟨?_, ?_⟩
    · simpa [plain] using h1.1
    · simpa [plain, Nat.add_assoc] using h1.2

theorem own_knob : ownKnob Tryz.prog.godebug = none := by kernel_rfl
theorem laid_out : laidOutB Tryz.prog = true := by kernel_rfl
theorem reads_coins : Tryz.prog.readableRec 93 = true ∧ 93 < Tryz.prog.types.size := ⟨by kernel_rfl, of_decide_eq_true (by kernel_rfl)⟩

theorem reads_string : Tryz.prog.readableRec 9 = true ∧ 9 < Tryz.prog.types.size := ⟨by kernel_rfl, of_decide_eq_true (by kernel_rfl)⟩
theorem reads_int : Tryz.prog.readableRec 2 = true ∧ 2 < Tryz.prog.types.size := ⟨by kernel_rfl, of_decide_eq_true (by kernel_rfl)⟩
theorem reads_coin : Tryz.prog.readableRec 86 = true ∧ 86 < Tryz.prog.types.size := ⟨by kernel_rfl, of_decide_eq_true (by kernel_rfl)⟩
set_option maxRecDepth 100000 in
/-- A record among the arguments. -/
theorem open_one {H : Type} {enc : TypeId × Value → H} {W : World} {v : Value} {d : DataW H} {ps : List MemPlace} {base : Nat} (hv : Value.okWide Tryz.prog W .any base 86 v) (h : DataW.Trod enc Tryz.prog W 0 (fun _ => true) true 86 v d ps) :
    ∃ s z, v = .agg #[.string s, .int .i64 z] ∧ (Lit.int .i64 z).wf = true := by
  obtain ⟨cs, rfl, hcs⟩ := okWide_struct Tryz.underlying86 hv
  obtain ⟨fuel, hf⟩ := h
  obtain ⟨y0, y1, m, _, _, t0, t1⟩ := trod_struct2 Tryz.underlying86 hf
  rw [show Tryz.prog.cellsOf 86 = 2 by kernel_rfl] at hcs
  have e0 : Tryz.prog.cellsOf 9 = 1 := by kernel_rfl
  have e1 : Tryz.prog.cellsOf 2 = 1 := by kernel_rfl
  simp only [e0, e1] at t0 t1
  obtain ⟨xs⟩ := cs
  match xs, hcs with
  | [c0, c1], _ =>
    obtain ⟨s, h0, _, _⟩ := DataW.trod_string Tryz.underlying9 t0
    obtain ⟨z, h1, _, hz⟩ := DataW.trod_int Tryz.underlying2 t1
    simp [Value.cells] at h0 h1
    subst h0; subst h1
    exact ⟨s, z, rfl, hz⟩

/-- A world for the witnesses: the settled one, the error's struct in a block of its own. -/
noncomputable def laidWorld (os : Os) : World :=
  let N := (World.settled Tryz.prog os).heap.size
  let w0 := World.holding Tryz.prog os ⟨#[.cells #[.string ⟨#[105, 110, 116, 101, 103, 101, 114, 32, 111, 118, 101, 114, 102, 108, 111, 119]⟩] 238], #[], []⟩
  { w0 with heap := w0.heap.modify 13 fun
      | .cells _ t frozen => .cells #[.iface 236 (.pointer (some ⟨N, 0, none⟩))] t frozen
      | o => o }
end Go.Proofs.YtfafiahefjimdaaGreatDoor
