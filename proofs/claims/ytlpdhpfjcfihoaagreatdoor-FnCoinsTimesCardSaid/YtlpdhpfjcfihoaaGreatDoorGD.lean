/-
  The contract of Coins.safeAdd.
  Contracts of Coins.Add and impl.AddOf, in plain lists.
-/
import Derived.Test.YtlpdhpfjcfihoaaGreatDoorGC
import Derived.Deep.RegionLaw
import Derived.Deep.RegionHeld3
namespace Go.Proofs.YtlpdhpfjcfihoaaGreatDoor
open Go Go.RowKit Go.Maps

theorem makeMapN (x : Int) (W : World) : (Instr.makeMap 193 (some (.int .i64 x))).run Tryz.prog W = .ok (.map (some W.heap.size)) (W.alloc (.map #[] 0)) := by
  simp [Instr.makeMap, run_underlying Tryz.underlying193, asInt, asIntOf, Result.andThen]

theorem own_slice {w : World} {base n k : Nat} {E : TypeId} {v : Value} {xs : List Value} (h : w.ownsRow base E k v n xs) : ∃ A c, v = .slice A n c := by
  rcases h.2 with ⟨rfl, rfl⟩ | ⟨g, cap, _, rfl, _⟩
  · exact ⟨_, _, rfl⟩
  · exact ⟨_, _, rfl⟩
/-- Keys in a row. -/
def KeysAt (w : World) (A : Option Addr) (ks : List ByteArray) : Prop := ks ≠ [] → ∃ g, A = some ⟨g, 0, none⟩ ∧ ∀ j (h : j < ks.length), w.cell? ⟨g, j, none⟩ = some (.string ks[j])
theorem KeysAt.ext {w w' : World} {A : Option Addr} {ks : List ByteArray} (h : KeysAt w A ks) (e : Ext w w') : KeysAt w' A ks := fun hn => by
  obtain ⟨g, hA, hc⟩ := h hn
  exact ⟨g, hA, fun j hj => e.cell' (hc j hj)⟩
theorem keysAt_of {w : World} {base : Nat} {A : Option Addr} {c : Nat} {ks : List ByteArray} (h : w.ownsRow base 9 1 (.slice A ks.length c) ks.length (ks.map Value.string)) : KeysAt w A ks := fun hn => by
  rcases h.2 with ⟨_, h0⟩ | ⟨g, cap, cur, hv, _, hb, _, _, _, ht⟩
  · exact absurd (List.length_eq_zero_iff.1 h0) hn
  · injection hv with h1 _ _
    refine ⟨g, h1, fun j hj => ?_⟩
    have hk : Blk w g 9 cur.toList := by unfold Blk; simpa using hb
    rw [hk.cell j]
    have : (cur.toList.take (ks.length * 1))[j]? = (ks.map Value.string)[j]? := by rw [ht]
    rw [List.getElem?_take, if_pos (by omega)] at this
    rw [this]; simp [hj]
theorem size_of_owns {w : World} {M n : Nat} {D : DataW Value} (h : w.ownsMap Tryz.prog 9 asIs M n D) : size D ≤ n := by
  obtain ⟨es, clock, _, F, hs, rfl⟩ := h
  simp [size, length_sorted]; exact hs
/-- The sum of one denomination. -/
def total (s : ByteArray) (l : List Co) : Int := ((ofS s l).map Co.z).sum
/-- The sums that are not 0. -/
def coal (ks : List ByteArray) (l : List Co) : List (ByteArray × Int) := ks.filterMap fun s => if total s l = 0 then none else some (s, total s l)
theorem coal_snoc (ks : List ByteArray) (s : ByteArray) (l : List Co) : coal (ks ++ [s]) l = coal ks l ++ if total s l = 0 then [] else [(s, total s l)] := by
  unfold coal; rw [List.filterMap_append]; congr 1
  by_cases h : total s l = 0 <;> simp [h]
theorem coal_strict {ks : List ByteArray} (l : List Co) (h : ks.Pairwise fun a b => keyLt a b = true) : (coal ks l).Pairwise fun a b => keyLt a.1 b.1 = true := by
  unfold coal
  refine List.Pairwise.filterMap _ ?_ h
  intro a a' haa b hb b' hb'
  split at hb
  · cases hb
  · split at hb'
    · cases hb'
    · injection hb with hb; injection hb' with hb'
      subst hb; subst hb'; exact haa
theorem row_of_own {w : World} {g : Nat} {cur : Array Value} {cs : List Co} (hb : w.heap[g]? = some (.cells cur 134 (0, 0))) (ht : cur.toList.take (cs.length * 2) = flat2 (cs.map Co.pair)) : Row w g cs (cur.toList.drop (cs.length * 2)) := by
  unfold Row Blk
  rw [← ht, List.take_append_drop]
  simpa using hb
theorem sum_bound (l : List Co) (B : Nat) (h : ∀ x ∈ l, x.z.natAbs ≤ B) : ((l.map Co.z).sum).natAbs ≤ l.length * B := by
  induction l with
  | nil => simp
  | cons a t ih =>
    have h1 := h a (by simp)
    have h2 := ih (fun x hx => h x (by simp [hx]))
    simp only [List.map_cons, List.sum_cons, List.length_cons, Nat.add_mul, Nat.one_mul]
    omega
/-- Coins added: of each denomination the sum, in order; sums of nothing are left out. -/
def RetAdd (all : List Co) (w : World) (e : Ending) (w' : World) : Prop :=
  ∃ (v : Value) (cs : List Co) (ks : List ByteArray), e = .returned v ∧ CoinsOwn w' w.heap.size v cs ∧ Ext w w' ∧ cs.map Co.val = coal ks all ∧ ks.Pairwise (fun a b => keyLt a b = true) ∧ ∀ s, s ∈ ks ↔ ofS s all ≠ []
theorem two_keep (w : World) (s : ByteArray) (b : Nat) :
    ((w.alloc (.cells #[.string s, .pointer (some ⟨b, 0, none⟩)] 134)).alloc (.cells #[.string s, .pointer (some ⟨b, 0, none⟩)] 134)).drew.cell? ⟨w.heap.size, 0, none⟩ = some (.string s) ∧
    ((w.alloc (.cells #[.string s, .pointer (some ⟨b, 0, none⟩)] 134)).alloc (.cells #[.string s, .pointer (some ⟨b, 0, none⟩)] 134)).drew.cell? ⟨w.heap.size, 1, none⟩ = some (.pointer (some ⟨b, 0, none⟩)) :=
  ⟨cell_old _ (by rw [cell_new]; rfl), cell_old _ (by rw [cell_new]; rfl)⟩

set_option maxRecDepth 100000 in
set_option maxHeartbeats 4000000 in
theorem safeAdd (A B : Option Addr) (n c m d : Nat) (la lb : List Co) (w : World) (hla : la.length = n) (hlb : lb.length = m) (hn : n + m < 50) (hA : CoinsAt w A la) (hB : CoinsAt w B lb)
    (hsz : ∀ x ∈ la ++ lb, x.s.size ≤ maxLen) (hzb : ∀ x ∈ la ++ lb, x.z.natAbs ≤ 1125899906842624)
    (hsa : sortedB (la.map Co.s) = true) (hsb : sortedB (lb.map Co.s) = true) :
    Calls Tryz.prog 161 #[.slice A n c, .slice B m d] w (RetAdd (la ++ lb) w) := by
  obtain ⟨i0, hi, hz0, hz1, hz2⟩ := info_parts infoCoin
  have H1 := Lib.hid (tIsSorted A n c la w hla (by omega) hA.1)
  have H2 := Lib.hid (fun q => tIsSorted B m d lb (w.drewN q) hlb (by omega) (hB.ext (Ext.drewN' w q)).1)
  rw [hsa] at H1
  rw [hsb] at H2
  have hmm := makeMapN
  have hA' := Lib.hid hA; have hB' := Lib.hid hB
  have HLA := Lib.hid hla; have HLB := Lib.hid hlb
  have HSZ := Lib.hid hsz; have HZB := Lib.hid hzb
  have HBIG := Lib.hid (show ∀ x ∈ la ++ lb, BigAt w x.b x.z from fun x hx => by rcases List.mem_append.1 hx with h | h; exact hA.2 x h; exact hB.2 x h)
  clear hA hB hsa hsb hla hlb hsz hzb
  go_enter Tryz.func161, Tryz.ntmps161
  go_wp2_with (first | (go_at_call 160; (with_reducible refine H1.out.mono ?_); rintro e w' ⟨rfl, q, rfl⟩) | (go_at_call 160; (with_reducible refine (H2.out _).mono ?_); rintro e w' ⟨rfl, q2, rfl⟩))
  clear hmm
  go_loopw [34] (fun i wr => ∃ (k : Nat) (done : List Co) (G : ByteArray → Value), k ≤ 2 ∧ i = .int .i64 k ∧ done = (if k = 0 then [] else if k = 1 then la else la ++ lb) ∧ Grp wr w.heap.size done G ∧ Ext w wr ∧
      wr.cell? ⟨w.heap.size + 1, 0, none⟩ = some (.slice A n c) ∧ wr.cell? ⟨w.heap.size + 1, 1, none⟩ = some (.slice B m d)) (fun i _ => 2 - (intOf i).toNat)
  case atStart =>
    refine ⟨0, [], fun _ => .nilFunc, by omega, rfl, by simp, grp_start w ?_ (by simp) _, ?_, ?_, ?_⟩
    · exact (Below.heap_alloc _ _ w.heap.size (by simp)).trans (heap_alloc_new (w.drewN (q + q2)) _)
    · exact (Ext.drewN' w _).trans' (ext2 _ _ _)
    · have := cell_new ((w.drewN (q + q2)).alloc (.map #[] 0)) #[.slice A n c, .slice B m d] 92 0
      simpa using this
    · have := cell_new ((w.drewN (q + q2)).alloc (.map #[] 0)) #[.slice A n c, .slice B m d] 92 1
      simpa using this
  case round =>
    obtain ⟨k, done, G0, hk, rfl, hd, hG, hE, hcA, hcB⟩ := hrel
    have HD := Lib.hid hd; have HG := Lib.hid hG; have HE := Lib.hid hE; have HCA := Lib.hid hcA; have HCB := Lib.hid hcB
    clear hd hG hE hcA hcB
    by_cases hlt : k < 2
    · have HX : Hid (∃ (X : Option Addr) (nx cx : Nat) (lx : List Co), wr.cell? ⟨w.heap.size + 1, k, none⟩ = some (.slice X nx cx) ∧ lx.length = nx ∧ CoinsAt w X lx ∧ done.length + nx < 50 ∧ (∀ x ∈ lx, x.s.size ≤ maxLen) ∧ done ++ lx = (if k + 1 = 0 then [] else if k + 1 = 1 then la else la ++ lb)) := by
        refine Lib.hid ?_
        have hla := HLA.out; have hlb := HLB.out; have hsz := HSZ.out
        have e0 := HD.out
        rcases (show k = 0 ∨ k = 1 by omega) with rfl | rfl
        · simp at e0; subst e0
          exact ⟨A, n, c, la, HCA.out, hla, hA'.out, by simp; omega, fun x hx => hsz x (List.mem_append_left _ hx), by simp⟩
        · simp at e0; subst e0
          exact ⟨B, m, d, lb, HCB.out, hlb, hB'.out, by omega, fun x hx => hsz x (List.mem_append_right _ hx), by simp⟩
      obtain ⟨X, nx, cx, lx, hcx, hlx, hX, hdn, hls, hdone⟩ := HX.out
      have HLX := Lib.hid hlx; have HXX := Lib.hid hX; have HDN := Lib.hid hdone; have HLS := Lib.hid hls
      clear hlx hX hdone hls HX HD
      obtain ⟨W1, hW1⟩ : ∃ W1, W1 = wr := ⟨_, rfl⟩
      subst hW1
      go_wp2
      go_loopw [40] (fun i wz => ∃ (j : Nat) (G : ByteArray → Value), j ≤ nx ∧ i = .int .i64 j ∧ Grp wz w.heap.size (done ++ lx.take j) G ∧ Ext w wz ∧ wz.heap[w.heap.size + 1]? = W1.heap[w.heap.size + 1]?) (fun i _ => nx - (intOf i).toNat)
      case atStart => exact ⟨0, G0, Nat.zero_le _, rfl, by simpa using HG.out, HE.out, rfl⟩
      case round =>
        obtain ⟨j, G, hj, rfl, hG, hE, hO⟩ := hrel
        have HG' := Lib.hid hG; have HE' := Lib.hid hE; have HO' := Lib.hid hO
        clear hG hE hO
        by_cases hjl : j < nx
        · have hjx : j < lx.length := by rw [HLX.out]; exact hjl
          obtain ⟨s, hs⟩ : ∃ s, s = lx[j].s := ⟨_, rfl⟩
          obtain ⟨b, hb⟩ : ∃ b, b = lx[j].b := ⟨_, rfl⟩
          obtain ⟨z, hzz⟩ : ∃ z, z = lx[j].z := ⟨_, rfl⟩
          obtain ⟨g, o, hXA, hc⟩ := HXX.out.1 (by intro e; have := congrArg List.length e; simp at this; rw [this] at hjx; simp at hjx)
          subst hXA
          have hck := hc j (by simpa using hjx)
          have cs0 : wr.cell? ⟨g, o + j * 2, none⟩ = some (.string s) := HE'.out.cell' (by rw [hck.1, hs]; simp [Co.pair])
          have cs1 : wr.cell? ⟨g, o + j * 2 + 1, none⟩ = some (.pointer (some ⟨b, 0, none⟩)) := HE'.out.cell' (by rw [hck.2, hb]; simp [Co.pair])
          have hsz1 : s.size ≤ maxLen := by rw [hs]; exact HLS.out _ (List.getElem_mem hjx)
          obtain ⟨pre, hpre⟩ : ∃ pre, pre = done ++ lx.take j := ⟨_, rfl⟩
          rw [← hpre] at HG'
          have hpl : pre.length < 50 := by rw [hpre]; simp; omega
          obtain ⟨v, hv⟩ : ∃ v, v = valAt G pre s := ⟨_, rfl⟩
          obtain ⟨kk, hkk⟩ : ∃ kk, kk = (ofS s pre).length := ⟨_, rfl⟩
          have hkl : kk < 50 := by rw [hkk]; exact Nat.lt_of_le_of_lt (ofS_len _ _) hpl
          have HV := Lib.hid hv; have HKK := Lib.hid hkk; have HPRE := Lib.hid hpre
          have hM0 := (show w.heap.size + 2 ≤ wr.heap.size from by obtain ⟨_, _, _, _, _, h⟩ := HG'.out; exact h)
          have l0 := grp_run HG'.out s hsz1 (wr.alloc (.cells #[.string s, .pointer (some ⟨b, 0, none⟩)] 134)).drew (Below.heap_alloc wr _ _ (by omega))
          have E2 := Lib.hid (show Ext wr (((wr.alloc (.cells #[.string s, .pointer (some ⟨b, 0, none⟩)] 134)).alloc (.cells #[.string s, .pointer (some ⟨b, 0, none⟩)] 134)).drew) from (ext2 wr _ _).trans' (Ext.drewN' _ 1))
          have l1 := grp_run HG'.out s hsz1 ((wr.alloc (.cells #[.string s, .pointer (some ⟨b, 0, none⟩)] 134)).alloc (.cells #[.string s, .pointer (some ⟨b, 0, none⟩)] 134)).drew (E2.out.block _ (by omega))
          rw [← hv] at l0 l1
          have HROW := Lib.hid (by have := grp_row HG'.out s; rw [← hv] at this; unfold CoRow at this; rw [← hkk] at this; exact owns_ext this E2.out)
          have NEWS := Lib.hid (two_new1 wr (.cells #[.string s, .pointer (some ⟨b, 0, none⟩)] 134) (.string s) (.pointer (some ⟨b, 0, none⟩)) 134)
          have S0 := Lib.hid (two_keep wr s b).1; have S1 := Lib.hid (two_keep wr s b).2
          have ONE := Lib.hid (two_one (.string s) (.pointer (some ⟨b, 0, none⟩)) rfl rfl)
          have HJ := Lib.hid (show lx[j] = ⟨s, b, z⟩ by rw [hs, hb, hzz])
          clear hs hb hzz hck hc hv hkk hpre
          go_wp2
          go_region_held3 (fun w' => w'.cell? ⟨wr.heap.size, 0, none⟩ = some (.string s) ∧ w'.cell? ⟨wr.heap.size, 1, none⟩ = some (.pointer (some ⟨b, 0, none⟩))) (first | exact K3 | exact K2 | go_keep) (first | (refine step_append_lies _ rfl (.tmp 50) (.tmp 52) 92 rfl (w.heap.size + 2) 134 i0 _ 2 24 Tryz.underlying92 hi hz0 hz1 hz2 rfl (by decide) v kk (flat2 ((ofS s pre).map Co.pair)) rfl HROW.out ⟨wr.heap.size + 1, 0, none⟩ 1 1 [.string s, .pointer (some ⟨b, 0, none⟩)] rfl rfl NEWS.out ONE.out (by decide) (by unfold maxLen; omega) (by omega) (by simp; omega) _ rfl ?_; intro g2 cap w2 hown hgrow hblk _; obtain ⟨K2, W3, G3, hupd, hg3, hr3⟩ := grp_arm HG'.out HE'.out ⟨s, b, z⟩ hsz1 hpl E2.out HKK.out HV.out hown hgrow hblk S0.out S1.out; have K3 := hr3.2.2; have R3 := Lib.hid (And.intro hg3 hr3); clear hown hgrow hblk hg3 hr3))
          all_goals go_wp2
          all_goals go_roundw
          all_goals first | (refine ⟨j + 1, by omega, by omega, ⟨G3, ?_⟩, R3.out.2.1, R3.out.2.2.1.trans HO'.out⟩; rw [List.take_succ_eq_append_getElem hjx, ← List.append_assoc, ← HPRE.out, HJ.out]; exact R3.out.1) | (simp [intOf]; omega)
        · obtain rfl : j = nx := by omega
          go_wp2
          go_roundw
          case rel =>
            refine ⟨k + 1, done ++ lx, G, by omega, by go_num, HDN.out, ?_, HE'.out, ?_, ?_⟩
            · have := HG'.out; rwa [List.take_of_length_le (by rw [HLX.out]; exact Nat.le_refl _)] at this
            · exact (World.cell?_of_block HO'.out).trans HCA.out
            · exact (World.cell?_of_block HO'.out).trans HCB.out
          case measure => simp [intOf]; omega
    · obtain rfl : k = 2 := by omega
      obtain rfl : done = la ++ lb := by have := HD.out; simpa using this
      obtain ⟨all, hall⟩ : ∃ all, all = la ++ lb := ⟨_, rfl⟩
      rw [← hall] at HG HSZ HZB HBIG ⊢
      have hal : all.length < 50 := by rw [hall]; simp; have := HLA.out; have := HLB.out; omega
      have HGG := HG.out
      obtain ⟨D, hM, hH, _⟩ := HGG
      have HK := Lib.hid (zKeys w.heap.size all.length D wr hM (by have := size_of_owns hM; omega))
      have HH := Lib.hid hH
      clear hM hH HD
      go_wp2_with (first | (go_at_call 191; (with_reducible refine HK.out.mono ?_); rintro e w2 ⟨kv, ks, rfl, hko, hkE, hkm, hks⟩; obtain ⟨KA, kc, rfl⟩ := own_slice hko; have KO := Lib.hid (keysAt_of hko); have KE := Lib.hid hkE; have KM := Lib.hid (fun s => (hkm s).trans (HH.out s)); have KS := Lib.hid hks; clear hko hkE hkm hks))
      obtain ⟨W2, hW2⟩ : ∃ W2, W2 = w2 := ⟨_, rfl⟩
      subst hW2
      have HE2 := Lib.hid (HE.out.trans' KE.out)
      have hkn : ks.length < 50 := by
        have h1 : ks.length ≤ (all.map Co.s).length := List.Nodup.length_le_of_subset (KS.out.imp fun {a b} h e => by subst e; rw [keyLt_irrefl] at h; cases h) (fun s hs => by
          obtain ⟨c, hc, e⟩ := ofS_ne.1 ((KM.out s).1 hs)
          exact List.mem_map.2 ⟨c, hc, e⟩)
        simp at h1; omega
      obtain ⟨W1, hW1⟩ : ∃ W1, W1 = wr := ⟨_, rfl⟩
      subst hW1
      go_loopw [4, 59] (fun v i wr => ∃ (k : Nat) (cs : List Co), k ≤ ks.length ∧ i = .int .i64 k ∧ cs.map Co.val = coal (ks.take k) all ∧ CoinsOwn wr W2.heap.size v cs ∧ Ext W2 wr) (fun _ i _ => ks.length - (intOf i).toNat)
      case atStart => exact ⟨0, [], Nat.zero_le _, rfl, rfl, CoinsOwn.nil _ _, Ext.refl _⟩
      case round =>
        obtain ⟨k, cs, hk, rfl, hcv, hown, hE⟩ := hrel
        have HV := Lib.hid hcv; have HO := Lib.hid hown; have HEr := Lib.hid hE
        have hcl : cs.length < 50 := by
          have h1 : cs.length = (coal (ks.take k) all).length := by rw [← hcv]; simp
          have h2 : (coal (ks.take k) all).length ≤ (ks.take k).length := List.length_filterMap_le _ _
          have : (ks.take k).length ≤ ks.length := by simp; omega
          omega
        clear hcv hown hE
        by_cases hlt : k < ks.length
        · obtain ⟨s, hs⟩ : ∃ s, s = ks[k] := ⟨_, rfl⟩
          obtain ⟨g, hKA, hkc⟩ := KO.out (by intro e; rw [e] at hlt; simp at hlt)
          subst hKA
          have cs0 : wr.cell? ⟨g, k, none⟩ = some (.string s) := HEr.out.cell' (by rw [hkc k hlt, hs])
          have hin : ofS s all ≠ [] := (KM.out s).1 (by rw [hs]; exact List.getElem_mem hlt)
          have hss : s.size ≤ maxLen := by obtain ⟨c, hc, e⟩ := ofS_ne.1 hin; rw [← e]; exact HSZ.out c hc
          have HEw := Lib.hid (KE.out.trans' HEr.out)
          have hM0 := (show w.heap.size + 2 ≤ W1.heap.size from by obtain ⟨_, _, _, _, _, h⟩ := HG.out; exact h)
          obtain ⟨RA, rc, hrv⟩ := own_slice (grp_row HG.out s)
          have l0 := grp_run HG.out s hss wr (HEw.out.block _ (by omega))
          have hrow := grp_row HG.out s
          rw [hrv] at l0 hrow
          obtain ⟨rows, hrows⟩ : ∃ rows, rows = ofS s all := ⟨_, rfl⟩
          obtain ⟨nr, hnr⟩ : ∃ nr, nr = rows.length := ⟨_, rfl⟩
          rw [← hrows, ← hnr] at l0
          rw [← hrows] at hrow
          have HRA := Lib.hid (recAt_of_owns (ps := rows.map Co.pair) (by simp) hrow)
          have HS := Lib.hid hs; have HROWS := Lib.hid hrows; have HNR := Lib.hid hnr
          have hnr50 : nr < 50 := by rw [hnr, hrows]; exact Nat.lt_of_le_of_lt (ofS_len _ _) hal
          clear hs hkc hrows hrow hrv hnr hin
          go_wp2_with (first | (go_at_call 67; refine (mNewInt 0 _ (by unfold maxI; omega) (by unfold maxI; omega)).mono ?_; rintro e w1 ⟨b0, rfl, hB, hE⟩; have HB0 := Lib.hid hB; have HE0 := Lib.hid hE; clear hB hE))
          obtain ⟨Wr, hWr⟩ : ∃ Wr, Wr = wr := ⟨_, rfl⟩
          subst hWr
          have hc1 := (show W2.heap.size ≤ w1.heap.size from Nat.le_trans HEr.out.size HE0.out.size)
          have hc2 := (show w.heap.size ≤ W2.heap.size from HE2.out.size)
          go_loopw [71] (fun i wz => ∃ (j b : Nat) (z : Int), j ≤ nr ∧ i = .int .i64 j ∧ Blk wz w1.heap.size 134 [.string s, .pointer (some ⟨b, 0, none⟩)] ∧ BigAt wz b z ∧ z = ((rows.take j).map Co.z).sum ∧ Only w1.heap.size w1 wz) (fun i _ => nr - (intOf i).toNat)
          case atStart => exact ⟨0, b0, 0, Nat.zero_le _, rfl, Blk.new _ _ _, HB0.out.ext (Ext.alloc' _ _), by simp, Only.of_ext (Ext.alloc' _ _)⟩
          case round =>
            obtain ⟨j, b, z, hj, rfl, hb, hB, hz, hO⟩ := hrel
            have HB := Lib.hid hb; have HBz := Lib.hid hB; have HZ := Lib.hid hz; have HOz := Lib.hid hO
            have HEz := Lib.hid (show Ext W2 wr from Only.ext (HEr.out.trans' HE0.out) hO hc1)
            have hzbd : z.natAbs < 56294995342131200 := by
              rw [hz]
              have hl : ((rows.take j).map Co.z).sum.natAbs ≤ (rows.take j).length * 1125899906842624 := sum_bound _ _ (fun x hx => HZB.out x (by
                have := List.mem_of_mem_take hx
                rw [HROWS.out] at this
                exact (List.mem_filter.1 this).1))
              have : (rows.take j).length ≤ 49 := by simp; have := HNR.out; omega
              omega
            have p0 : wr.cell? ⟨w1.heap.size, 0, none⟩ = some (.string s) := (HB.out.cell 0).trans rfl
            have p1 : wr.cell? ⟨w1.heap.size, 1, none⟩ = some (.pointer (some ⟨b, 0, none⟩)) := (HB.out.cell 1).trans rfl
            clear hb hB hz hO
            by_cases hjl : j < nr
            · have hjx : j < rows.length := by rw [← HNR.out]; exact hjl
              obtain ⟨t, ht⟩ : ∃ t, t = rows[j].s := ⟨_, rfl⟩
              obtain ⟨y, hy⟩ : ∃ y, y = rows[j].b := ⟨_, rfl⟩
              obtain ⟨x, hx⟩ : ∃ x, x = rows[j].z := ⟨_, rfl⟩
              obtain ⟨g2, o2, hRA, hc⟩ := HRA.out (by intro e; have := congrArg List.length e; simp at this; rw [this] at hjx; simp at hjx)
              subst hRA
              have hck := hc j (by simpa using hjx)
              have hEall := (show Ext W1 wr from KE.out.trans' HEz.out)
              have hmem : rows[j] ∈ all := by
                have h2 : rows[j] ∈ ofS s all := by rw [← HROWS.out]; exact List.getElem_mem hjx
                exact (List.mem_filter.1 h2).1
              have hts : t = s := by
                have := List.getElem_mem hjx
                rw [ht]
                have h2 : rows[j] ∈ ofS s all := by rw [← HROWS.out]; exact this
                simpa using (List.mem_filter.1 h2).2
              subst hts
              have ct0 : wr.cell? ⟨g2, o2 + j * 2, none⟩ = some (.string t) := hEall.cell' (by rw [hck.1, ht]; simp [Co.pair])
              have ct1 : wr.cell? ⟨g2, o2 + j * 2 + 1, none⟩ = some (.pointer (some ⟨y, 0, none⟩)) := hEall.cell' (by rw [hck.2, hy]; simp [Co.pair])
              have HY := Lib.hid (show BigAt wr y x by rw [hy, hx]; exact (HBIG.out _ hmem).ext (HE2.out.trans' HEz.out))
              have hxb : x.natAbs ≤ 1125899906842624 := by rw [hx]; exact HZB.out _ hmem
              have HX := Lib.hid hx
              have p0' := cell_old (.cells #[.string t, .pointer (some ⟨y, 0, none⟩)] 134) p0
              have p1' := cell_old (.cells #[.string t, .pointer (some ⟨y, 0, none⟩)] 134) p1
              clear ht hy hx hck hc hmem hEall
              go_wp2_with (first | (go_at_call 192; refine (tAdd t b y z x _ (HBz.out.ext (Ext.alloc' _ _)) (HY.out.ext (Ext.alloc' _ _)) (by unfold B64; omega) (by unfold B64; omega) (by unfold B64; omega)).mono ?_; rintro e w3 ⟨b3, rfl, hB3, hE3⟩; have HB3 := Lib.hid hB3; have HE3 := Lib.hid ((Ext.alloc' _ _).trans' hE3); have q0 : w3.cell? ⟨w1.heap.size, 0, none⟩ = some (.string t) := HE3.out.cell' p0; have q1 : w3.cell? ⟨w1.heap.size, 1, none⟩ = some (.pointer (some ⟨b, 0, none⟩)) := HE3.out.cell' p1; have f0 := (HB.out.ext HE3.out).frozen 0; have f1 := (HB.out.ext HE3.out).frozen 1; clear hB3 hE3))
              go_roundw
              case rel =>
                have k0 := HB.out.ext HE3.out
                refine ⟨j + 1, b3, z + x, by omega, by go_num, ?_, ?_, ?_, ((HOz.out.trans' (Only.of_ext HE3.out)).set_ _ _).set_ _ _⟩
                · have := (k0.set_ 0 (.string t)).set_ 1 (.pointer (some ⟨b3, 0, none⟩)); simpa using this
                · exact (HB3.out.set_ k0 0 _).set_ (k0.set_ 0 (.string t)) 1 _
                · rw [List.take_succ_eq_append_getElem hjx, List.map_append, List.sum_append, ← HZ.out, HX.out]; simp
              case measure => simp [intOf]; omega
            · obtain rfl : j = nr := by omega
              have hzt : z = total s all := by rw [HZ.out, List.take_of_length_le (by rw [← HNR.out]; exact Nat.le_refl _), HROWS.out]; rfl
              have HZT := Lib.hid hzt; clear hzt
              have HEw1 := Lib.hid (show Ext w1 wr from Only.ext (Ext.refl w1) HOz.out (Nat.le_refl _))
              have HO4 := Lib.hid ((HO.out.ext HE0.out).ext HEw1.out)
              by_cases hz0' : z = 0
              · have hsg : (sgn z == 0) = true := by rw [hz0']; rfl
                go_wp2_with (first | (go_at_call 193; refine (tIsZero s b z _ HBz.out).mono ?_; rintro e w4 ⟨rfl, hE4⟩; have HE4 := Lib.hid hE4; clear hE4))
                go_roundw
                case rel =>
                  refine ⟨k + 1, cs, by omega, by go_num, ?_, HO4.out.ext HE4.out, HEz.out.trans' HE4.out⟩
                  rw [List.take_succ_eq_append_getElem hlt, ← HS.out, coal_snoc, if_pos (by rw [← HZT.out]; exact hz0'), List.append_nil]; exact HV.out
                case measure => simp [intOf]; omega
              · have hsg : (sgn z == 0) = false := by unfold sgn; split <;> (try split) <;> first | rfl | (exfalso; omega)
                go_wp2_with (first | (go_at_call 193; refine (tIsZero s b z _ HBz.out).mono ?_; rintro e w4 ⟨rfl, hE4⟩; have HE4 := Lib.hid hE4; have q0 := hE4.cell' p0; have q1 := hE4.cell' p1; clear hE4) | (at_builtin; refine wpList_append_own_at _ rfl (.tmp 82) (.tmp 84) 92 rfl W2.heap.size 134 i0 _ 2 24 Tryz.underlying92 hi hz0 hz1 hz2 rfl (by decide) u4 cs.length (flat2 (cs.map Co.pair)) rfl (owns_ext (owns_ext HO4.out.1 HE4.out) (ext1 _ _)) ⟨w4.heap.size, 0, none⟩ 1 1 [.string s, .pointer (some ⟨b, 0, none⟩)] rfl rfl (cell_two_new _ _ _ _) (two_one _ _ rfl rfl) (by unfold maxLen; omega) (by omega) (by have := HEz.out.size; have := HE4.out.size; simp; omega) ?_; intro v' w5 hown5 hgrow5 _ _; have R := Lib.hid (coins_push (w := W2) (z := z) ((HO4.out.ext HE4.out).ext (ext1 _ _)) ((HBz.out.ext HE4.out).ext (ext1 _ _)) ((HEz.out.trans' HE4.out).trans' (ext1 _ _)) hown5 hgrow5); clear hown5 hgrow5))
                go_roundw
                case rel =>
                  refine ⟨k + 1, cs ++ [⟨s, b, z⟩], by omega, by go_num, ?_, R.out.1, R.out.2⟩
                  rw [List.take_succ_eq_append_getElem hlt, ← HS.out, coal_snoc, if_neg (by rw [← HZT.out]; exact hz0'), List.map_append, HV.out, ← HZT.out]; rfl
                case measure => simp [intOf]; omega
        · obtain rfl : k = ks.length := by omega
          have hvt : cs.map Co.val = coal ks all := by have := HV.out; rwa [List.take_length] at this
          have hst : cs.Pairwise fun a b => keyLt (Co.s a) (Co.s b) = true := by
            have h1 := coal_strict all KS.out
            rw [← hvt, List.pairwise_map] at h1
            exact h1
          have HVT := Lib.hid hvt; have HST := Lib.hid hst
          clear hvt hst
          have HM := Lib.hid (show ∀ s, s ∈ ks ↔ ofS s (la ++ lb) ≠ [] by rw [← hall]; exact KM.out)
          rcases HO.out.1.2 with ⟨hv, hn0⟩ | ⟨g, cap, cur, hv, hbg, hgb, hnc, hcm, hcs, hct⟩
          · subst hv
            obtain rfl : cs = [] := List.length_eq_zero_iff.1 hn0
            have hp : ∀ W : World, (binOp .eql 92 (.slice none 0 0) (.slice none 0 0)).run Tryz.prog W = .ok (.bool true) W := fun _ => by kernel_rfl
            go_wp2
            go_ret
            exact ⟨.slice (some ⟨wr.heap.size, 0, none⟩) 0 0, [], ks, rfl, ⟨⟨rfl, Or.inr ⟨wr.heap.size, 0, #[], rfl, Nat.le_trans HE2.out.size HEr.out.size, heap_alloc_new _ _, Nat.le_refl _, by decide, rfl, rfl⟩⟩, fun _ h => by cases h⟩, (HE2.out.trans' HEr.out).trans' (ext1 _ _), by rw [← hall]; exact HVT.out, KS.out, HM.out⟩
          · subst hv
            have hp : ∀ (W : World) (r n c : Nat), (binOp .eql 92 (.slice (some ⟨r, 0, none⟩) n c) (.slice none 0 0)).run Tryz.prog W = .ok (.bool false) W := fun _ _ _ _ => by kernel_rfl
            have HROW := Lib.hid (row_of_own hgb hct)
            have HTS := Lib.hid (tSort g cs.length cap cs _ wr HROW.out rfl (Or.inr ⟨by omega, inOrd_of HST.out⟩))
            clear hgb hct
            go_wp2_with (first | (go_at_call 194; (with_reducible refine HTS.out.mono ?_); rintro e w5 ⟨rfl, L, hr, ho, hP, hS⟩; have HR := Lib.hid hr; have HO5 := Lib.hid ho; have HP5 := Lib.hid hP; have HS5 := Lib.hid hS; clear hr ho hP hS))
            go_ret
            obtain rfl : L = cs := asc_unique (key := Co.s) HP5.out HS5.out HST.out
            refine ⟨.slice (some ⟨g, 0, none⟩) L.length cap, L, ks, rfl, ⟨⟨?_, Or.inr ⟨g, cap, (flat2 (L.map Co.pair) ++ cur.toList.drop (L.length * 2)).toArray, rfl, Nat.le_trans HE2.out.size hbg, HR.out, hnc, hcm, ?_, ?_⟩⟩, fun x hx => (HO.out.2 x hx).only HO5.out HROW.out⟩, Only.ext (HE2.out.trans' HEr.out) HO5.out (Nat.le_trans HE2.out.size hbg), by rw [← hall]; exact HVT.out, KS.out, HM.out⟩
            · rw [flat2_length]; simp
            · have h1 : (flat2 (L.map Co.pair)).length = L.length * 2 := by rw [flat2_length]; simp
              simp [h1]; have := hcs; omega
            · have h1 : (flat2 (L.map Co.pair)).length = L.length * 2 := by rw [flat2_length]; simp
              rw [show (flat2 (L.map Co.pair) ++ cur.toList.drop (L.length * 2)).toArray.toList = flat2 (L.map Co.pair) ++ cur.toList.drop (L.length * 2) from rfl, List.take_append_of_le_length (by omega), List.take_of_length_le (by omega)]
end Go.Proofs.YtlpdhpfjcfihoaaGreatDoor

namespace Go.Proofs.YtlpdhpfjcfihoaaGreatDoor
open Go Go.RowKit Go.Maps

/-- The sum of one denomination. -/
def totalP (s : ByteArray) (l : List (ByteArray × Int)) : Int := ((l.filter fun x => decide (x.1 = s)).map Prod.snd).sum
/-- The sums that are not 0. -/
def coalP (ks : List ByteArray) (l : List (ByteArray × Int)) : List (ByteArray × Int) := ks.filterMap fun s => if totalP s l = 0 then none else some (s, totalP s l)
theorem total_plain (s : ByteArray) (l : List Co) : total s l = totalP s (l.map Co.val) := by
  unfold total totalP ofS
  rw [List.filter_map, List.map_map]; rfl
theorem coal_plain (ks : List ByteArray) (l : List Co) : coal ks l = coalP ks (l.map Co.val) := by
  unfold coal coalP; congr 1; funext s; rw [total_plain]
/-- r has the sums of l by their denominations, in order, without those of nothing. -/
def IsAdd (l r : List (ByteArray × Int)) : Prop := ∃ ks : List ByteArray, ks.Pairwise (fun a b => keyLt a b = true) ∧ (∀ s, s ∈ ks ↔ ∃ x ∈ l, x.1 = s) ∧ r = coalP ks l
theorem isAdd_unique {l r r' : List (ByteArray × Int)} (h : IsAdd l r) (h' : IsAdd l r') : r = r' := by
  obtain ⟨ks, h1, h2, rfl⟩ := h
  obtain ⟨ks', h1', h2', rfl⟩ := h'
  have hn : ∀ {k : List ByteArray}, k.Pairwise (fun a b => keyLt a b = true) → k.Nodup := fun h => h.imp fun {a b} h e => by subst e; rw [keyLt_irrefl] at h; cases h
  have hp : ks.Perm ks' := (List.perm_ext_iff_of_nodup (hn h1) (hn h1')).2 fun s => (h2 s).trans (h2' s).symm
  have : ks = ks' := asc_unique (key := id) hp (h1.imp fun h => le_of_lt h) h1'
  rw [this]

/-- The two lists are added; or they are told as not sorted. -/
def RetAddOf (l m : List (ByteArray × Int)) (w : World) (e : Ending) (w' : World) : Prop :=
  if sortedB (l.map Prod.fst) = true ∧ sortedB (m.map Prod.fst) = true then ∃ v r, e = .returned (.tuple #[v, .bool true]) ∧ IsAdd (l ++ m) r ∧ PlainOwn w' w.heap.size 31 v r ∧ Ext w w'
  else e = .returned (.tuple #[.slice none 0 0, .bool false]) ∧ Ext w w'

set_option maxRecDepth 100000 in
theorem tAddCoins (A B : Option Addr) (n c m d : Nat) (la lb : List Co) (w : World) (hla : la.length = n) (hlb : lb.length = m) (hn : n + m < 50) (hA : CoinsAt w A la) (hB : CoinsAt w B lb)
    (hsz : ∀ x ∈ la ++ lb, x.s.size ≤ maxLen) (hzb : ∀ x ∈ la ++ lb, x.z.natAbs ≤ 1125899906842624)
    (hsa : sortedB (la.map Co.s) = true) (hsb : sortedB (lb.map Co.s) = true) :
    Calls Tryz.prog 118 #[.slice A n c, .slice B m d] w (RetAdd (la ++ lb) w) := by
  have H := Lib.hid (safeAdd A B n c m d la lb w hla hlb hn hA hB hsz hzb hsa hsb)
  clear hla hlb hn hA hB hsz hzb hsa hsb
  go_enter Tryz.func118, Tryz.ntmps118
  go_wp2_with (first | (go_at_call 161; (with_reducible refine H.out.mono ?_); rintro e w' ⟨v, cs, ks, rfl, h⟩; have H2 := Lib.hid h; clear h))
  go_ret
  exact ⟨v, cs, ks, rfl, H2.out⟩

theorem own_at {w : World} {base n c : Nat} {A : Option Addr} {cs : List Co} (h : CoinsOwn w base (.slice A n c) cs) : CoinsAt w A cs ∧ cs.length = n := by
  obtain ⟨h1, h2⟩ := h
  have hn : cs.length = n := by
    rcases h1.2 with ⟨hv, h0⟩ | ⟨g, cap, cur, hv, _⟩
    · injection hv with _ e _; omega
    · injection hv with _ e _; exact e.symm
  subst hn
  exact ⟨⟨recAt_of_owns (ps := cs.map Co.pair) (by simp) h1, h2⟩, rfl⟩
theorem coins_shape {w : World} {base : Nat} {v : Value} {cs : List Co} (h : CoinsOwn w base v cs) : ∃ A c, v = .slice A cs.length c := own_slice h.1

theorem coal_bound {ks : List ByteArray} {l : List Co} (hl : l.length < 50) (hz : ∀ x ∈ l, x.z.natAbs ≤ 1125899906842624) : ∀ y ∈ coal ks l, y.2.natAbs ≤ 56294995342131200 := by
  intro y hy
  obtain ⟨s, _, hs⟩ := List.mem_filterMap.1 hy
  split at hs
  · cases hs
  · injection hs with hs; subst hs
    have h1 : (total s l).natAbs ≤ (ofS s l).length * 1125899906842624 := sum_bound (ofS s l) _ fun x hx => hz x (List.mem_filter.1 hx).1
    have h2 := ofS_len s l
    have h3 : (ofS s l).length * 1125899906842624 ≤ 49 * 1125899906842624 := Nat.mul_le_mul_right _ (by omega)
    show (total s l).natAbs ≤ _
    omega

theorem fst_of {cs : List Co} {l : List (ByteArray × Int)} (h : cs.map Co.val = l) : cs.map Co.s = l.map Prod.fst := by rw [← h, List.map_map]; rfl
theorem sorted_of {W W' : World} {base c : Nat} {A : Option Addr} {cs : List Co} {l : List (ByteArray × Int)} {r : Bool} (h : CoinsOwn W base (.slice A cs.length c) cs) (hv : cs.map Co.val = l) (e : Ext W W') (hn : cs.length ≤ 1000000) (hr : r = sortedB (l.map Prod.fst)) :
    Calls Tryz.prog 117 #[.slice A cs.length c] W' (RetQ (.bool r) W') := by
  rw [hr, ← fst_of hv]
  exact tSorted A cs.length c cs W' rfl hn ((own_at h).1.ext e).1
theorem mem_val {cs cs' : List Co} {l l' : List (ByteArray × Int)} (h : cs.map Co.val = l) (h' : cs'.map Co.val = l') {x : Co} (hx : x ∈ cs ++ cs') : x.val ∈ l ++ l' := by
  rw [← h, ← h', ← List.map_append]; exact List.mem_map_of_mem hx
theorem ofS_plain {cs cs' : List Co} {l l' : List (ByteArray × Int)} (h : cs.map Co.val = l) (h' : cs'.map Co.val = l') (s : ByteArray) : ofS s (cs ++ cs') ≠ [] ↔ ∃ x ∈ l ++ l', x.1 = s := by
  rw [ofS_ne, ← h, ← h', ← List.map_append]
  constructor
  · rintro ⟨c, hc, e⟩; exact ⟨c.val, List.mem_map_of_mem hc, e⟩
  · rintro ⟨x, hx, e⟩
    obtain ⟨c, hc, rfl⟩ := List.mem_map.1 hx
    exact ⟨c, hc, e⟩
theorem strict_len {ks : List ByteArray} {all : List Co} (hk : ks.Pairwise fun a b => keyLt a b = true) (hm : ∀ s, s ∈ ks ↔ ofS s all ≠ []) : ks.length ≤ all.length := by
  have h1 : ks.length ≤ (all.map Co.s).length := List.Nodup.length_le_of_subset (hk.imp fun {a b} h e => by subst e; rw [keyLt_irrefl] at h; cases h) (fun s hs => by
    obtain ⟨c, hc, e⟩ := ofS_ne.1 ((hm s).1 hs)
    exact List.mem_map.2 ⟨c, hc, e⟩)
  simpa using h1
theorem coal_len {cs3 cs cs2 : List Co} {ks : List ByteArray} {n m : Nat} (hv : cs3.map Co.val = coal ks (cs ++ cs2)) (h1 : cs.length = n) (h2 : cs2.length = m) (hm : ∀ s, s ∈ ks ↔ ofS s (cs ++ cs2) ≠ []) (hk : ks.Pairwise fun a b => keyLt a b = true) : cs3.length ≤ n + m := by
  have e1 : cs3.length = (coal ks (cs ++ cs2)).length := by rw [← hv]; simp
  have e2 : (coal ks (cs ++ cs2)).length ≤ ks.length := List.length_filterMap_le _ _
  have e3 := strict_len hk hm
  simp at e3; omega
theorem back_bound {cs3 : List Co} {ks : List ByteArray} {all : List Co} (hv : cs3.map Co.val = coal ks all) (hl : all.length < 50) (hz : ∀ x ∈ all, x.z.natAbs ≤ 1125899906842624) : ∀ x ∈ cs3, -maxI ≤ x.z ∧ x.z ≤ maxI := by
  intro x hx
  have : x.val ∈ coal ks all := by rw [← hv]; exact List.mem_map_of_mem hx
  have := coal_bound hl hz _ this
  have h2 : x.val.2 = x.z := rfl
  rw [h2] at this
  unfold maxI; omega

set_option maxRecDepth 100000 in
set_option maxHeartbeats 2000000 in
theorem iAddOf (A B : Option Addr) (n c m d : Nat) (l l' : List (ByteArray × Int)) (w : World) (hl : l.length = n) (hl' : l'.length = m) (hn : n + m < 50) (hA : PlainAt w A l) (hB : PlainAt w B l')
    (hsz : ∀ x ∈ l ++ l', x.1.size ≤ maxLen) (hzb : ∀ x ∈ l ++ l', x.2.natAbs ≤ 1125899906842624) :
    Calls Tryz.prog 70 #[.slice A n c, .slice B m d] w (RetAddOf l l' w) := by
  have hb : ∀ x ∈ l ++ l', -maxI ≤ x.2 ∧ x.2 ≤ maxI := fun x hx => by have := hzb x hx; unfold maxI; omega
  have H1 := Lib.hid (iCoins A n c l w hl (by omega) hA fun x hx => hb x (List.mem_append_left _ hx))
  have H2 := Lib.hid (fun (W : World) (e : Ext w W) => iCoins B m d l' W hl' (by omega) (PlainAt.ext hB e) fun x hx => hb x (List.mem_append_right _ hx))
  have HSZ := Lib.hid hsz; have HZB := Lib.hid hzb; have HL := Lib.hid hl; have HL' := Lib.hid hl'
  clear hb hA hB hsz hzb hl hl'
  obtain ⟨r1, hr1⟩ : ∃ r1, r1 = sortedB (l.map Prod.fst) := ⟨_, rfl⟩
  obtain ⟨r2, hr2⟩ : ∃ r2, r2 = sortedB (l'.map Prod.fst) := ⟨_, rfl⟩
  have HR1 := Lib.hid hr1; have HR2 := Lib.hid hr2
  clear hr1 hr2
  cases r1
  · go_enter Tryz.func70, Tryz.ntmps70
    go_wp2_with (first | (go_at_call 65; (with_reducible refine H1.out.mono ?_); rintro e w1 ⟨v, cs, rfl, hcv, hown, hE⟩; obtain ⟨A1, c1, rfl⟩ := coins_shape hown; have HV := Lib.hid hcv; have HO := Lib.hid hown; have HE := Lib.hid hE; have HN := Lib.hid (show cs.length = n by rw [← HL.out, ← hcv]; simp); clear hcv hown hE) | (go_at_call 65; (with_reducible refine (H2.out _ HE.out).mono ?_); rintro e w2 ⟨v2, cs2, rfl, hcv2, hown2, hE2⟩; obtain ⟨A2, c2, rfl⟩ := coins_shape hown2; have HV2 := Lib.hid hcv2; have HO2 := Lib.hid hown2; have HE2 := Lib.hid hE2; have HN2 := Lib.hid (show cs2.length = m by rw [← HL'.out, ← hcv2]; simp); have HC1 := Lib.hid (sorted_of HO.out HV.out hE2 (by rw [HN.out]; omega) HR1.out); have HC2 := Lib.hid (fun q => sorted_of hown2 hcv2 (Ext.drewN' w2 q) (by rw [HN2.out]; omega) HR2.out); clear hcv2 hown2 hE2) | (go_at_call 117; (with_reducible refine HC1.out.mono ?_); rintro e w3 ⟨rfl, q, rfl⟩))
    go_ret2
    unfold RetAddOf
    rw [if_neg (by rw [← HR1.out]; simp)]
    exact ⟨rfl, (HE.out.trans' HE2.out).trans' (Ext.drewN' _ _)⟩
  · cases r2
    · go_enter Tryz.func70, Tryz.ntmps70
      go_wp2_with (first | (go_at_call 65; (with_reducible refine H1.out.mono ?_); rintro e w1 ⟨v, cs, rfl, hcv, hown, hE⟩; obtain ⟨A1, c1, rfl⟩ := coins_shape hown; have HV := Lib.hid hcv; have HO := Lib.hid hown; have HE := Lib.hid hE; have HN := Lib.hid (show cs.length = n by rw [← HL.out, ← hcv]; simp); clear hcv hown hE) | (go_at_call 65; (with_reducible refine (H2.out _ HE.out).mono ?_); rintro e w2 ⟨v2, cs2, rfl, hcv2, hown2, hE2⟩; obtain ⟨A2, c2, rfl⟩ := coins_shape hown2; have HV2 := Lib.hid hcv2; have HO2 := Lib.hid hown2; have HE2 := Lib.hid hE2; have HN2 := Lib.hid (show cs2.length = m by rw [← HL'.out, ← hcv2]; simp); have HC1 := Lib.hid (sorted_of HO.out HV.out hE2 (by rw [HN.out]; omega) HR1.out); have HC2 := Lib.hid (fun q => sorted_of hown2 hcv2 (Ext.drewN' w2 q) (by rw [HN2.out]; omega) HR2.out); clear hcv2 hown2 hE2) | (go_at_call 117; (with_reducible refine HC1.out.mono ?_); rintro e w3 ⟨rfl, q, rfl⟩) | (go_at_call 117; (with_reducible refine (HC2.out _).mono ?_); rintro e w3 ⟨rfl, q2, rfl⟩))
      go_ret2
      unfold RetAddOf
      rw [if_neg (by rw [← HR2.out]; simp)]
      exact ⟨rfl, (HE.out.trans' HE2.out).trans' (Ext.drewN' _ _)⟩
    · go_enter Tryz.func70, Tryz.ntmps70
      go_wp2_with (first | (go_at_call 65; (with_reducible refine H1.out.mono ?_); rintro e w1 ⟨v, cs, rfl, hcv, hown, hE⟩; obtain ⟨A1, c1, rfl⟩ := coins_shape hown; have HV := Lib.hid hcv; have HO := Lib.hid hown; have HE := Lib.hid hE; have HN := Lib.hid (show cs.length = n by rw [← HL.out, ← hcv]; simp); clear hcv hown hE) | (go_at_call 65; (with_reducible refine (H2.out _ HE.out).mono ?_); rintro e w2 ⟨v2, cs2, rfl, hcv2, hown2, hE2⟩; obtain ⟨A2, c2, rfl⟩ := coins_shape hown2; have HV2 := Lib.hid hcv2; have HO2 := Lib.hid hown2; have HE2 := Lib.hid hE2; have HN2 := Lib.hid (show cs2.length = m by rw [← HL'.out, ← hcv2]; simp); have HC1 := Lib.hid (sorted_of HO.out HV.out hE2 (by rw [HN.out]; omega) HR1.out); have HC2 := Lib.hid (fun q => sorted_of hown2 hcv2 (Ext.drewN' w2 q) (by rw [HN2.out]; omega) HR2.out); clear hcv2 hown2 hE2) | (go_at_call 117; (with_reducible refine HC1.out.mono ?_); rintro e w3 ⟨rfl, q, rfl⟩) | (go_at_call 117; (with_reducible refine (HC2.out _).mono ?_); rintro e w3 ⟨rfl, q2, rfl⟩) | (go_at_call 118; refine (tAddCoins A1 A2 cs.length c1 cs2.length c2 cs cs2 _ rfl rfl (by rw [HN.out, HN2.out]; exact hn) ((own_at HO.out).1.ext (HE2.out.trans' (Ext.drewN' _ _))) ((own_at HO2.out).1.ext (Ext.drewN' _ _)) (fun x hx => HSZ.out _ (mem_val HV.out HV2.out hx)) (fun x hx => HZB.out _ (mem_val HV.out HV2.out hx)) (by rw [fst_of HV.out]; exact HR1.out.symm) (by rw [fst_of HV2.out]; exact HR2.out.symm)).mono ?_; rintro e w4 ⟨v3, cs3, ks, rfl, hown3, hE3, hval3, hks, hmem⟩; obtain ⟨A3, c3, rfl⟩ := coins_shape hown3; have HO3 := Lib.hid hown3; have HE3 := Lib.hid hE3; have HV3 := Lib.hid hval3; have HK := Lib.hid hks; have HM := Lib.hid hmem; clear hown3 hE3 hval3 hks hmem) | (go_at_call 68; refine (iBackCoins A3 cs3.length c3 cs3 _ rfl (by have := coal_len HV3.out (HN.out) (HN2.out) HM.out HK.out; omega) (own_at HO3.out).1 (fun x hx => back_bound HV3.out (by simp; rw [HN.out, HN2.out]; exact hn) (fun y hy => HZB.out _ (mem_val HV.out HV2.out hy)) x hx)).mono ?_; rintro e w5 ⟨v5, rfl, ho5, hE5⟩; have HO5 := Lib.hid ho5; have HE5 := Lib.hid hE5; clear ho5 hE5))
      go_ret2
      unfold RetAddOf
      rw [if_pos ⟨HR1.out.symm, HR2.out.symm⟩]
      refine ⟨v5, _, rfl, ⟨ks, HK.out, fun s => (HM.out s).trans (ofS_plain HV.out HV2.out s), by rw [HV3.out, coal_plain, List.map_append, HV.out, HV2.out]⟩, row_low HO5.out ?_, ((HE.out.trans' HE2.out).trans' (Ext.drewN' _ _)).trans' (HE3.out.trans' HE5.out)⟩
      have := HE.out.size; have := HE2.out.size; have := HE3.out.size; simp at this ⊢; omega
end Go.Proofs.YtlpdhpfjcfihoaaGreatDoor
