/-
  Contracts of Coins.Add and impl.AddOf, in plain lists.
-/
import Derived.Test.YtagfbefgcijegaaGreatDoorSafe
namespace Go.Proofs.YtagfbefgcijegaaGreatDoor
open Go Go.RowKit Go.Maps

/-- The sum of one denomination. -/
def totalP (s : ByteArray) (l : List (ByteArray × Int)) : Int := ((l.filter fun x => decide (x.1 = s)).map Prod.snd).sum
/-- The sums that are not 0. -/
def coalP (ks : List ByteArray) (l : List (ByteArray × Int)) : List (ByteArray × Int) := ks.filterMap fun s => if totalP s l = 0 then none else some (s, totalP s l)
theorem total_plain (s : ByteArray) (l : List Co) : total s l = totalP s (l.map Co.val) := by
  unfold total totalP ofS
  rw [List.filter_map, List.map_map]; rfl
theorem coal_plain (ks : List ByteArray) (l : List Co) : coal ks l = coalP ks (l.map Co.val) := by
  unfold coal coalP; congr 1; funext s; rw [total_plain]
/-- r has the sums of l by their denominations, in order, without those of nothing. -/
def IsAdd (l r : List (ByteArray × Int)) : Prop := ∃ ks : List ByteArray, ks.Pairwise (fun a b => keyLt a b = true) ∧ (∀ s, s ∈ ks ↔ ∃ x ∈ l, x.1 = s) ∧ r = coalP ks l
theorem isAdd_unique {l r r' : List (ByteArray × Int)} (h : IsAdd l r) (h' : IsAdd l r') : r = r' := by
  obtain ⟨ks, h1, h2, rfl⟩ := h
  obtain ⟨ks', h1', h2', rfl⟩ := h'
  have hn : ∀ {k : List ByteArray}, k.Pairwise (fun a b => keyLt a b = true) → k.Nodup := fun h => h.imp fun {a b} h e => by subst e; rw [keyLt_irrefl] at h; cases h
  have hp : ks.Perm ks' := (List.perm_ext_iff_of_nodup (hn h1) (hn h1')).2 fun s => (h2 s).trans (h2' s).symm
  have : ks = ks' := asc_unique (key := id) hp (h1.imp fun h => le_of_lt h) h1'
  rw [this]

/-- The two lists are added; or they are told as not sorted. -/
def RetAddOf (l m : List (ByteArray × Int)) (w : World) (e : Ending) (w' : World) : Prop :=
  if sortedB (l.map Prod.fst) = true ∧ sortedB (m.map Prod.fst) = true then ∃ v r, e = .returned (.tuple #[v, .bool true]) ∧ IsAdd (l ++ m) r ∧ PlainOwn w' w.heap.size 37 v r ∧ Ext w w'
  else e = .returned (.tuple #[.slice none 0 0, .bool false]) ∧ Ext w w'

set_option maxRecDepth 100000 in
theorem tAddCoins (A B : Option Addr) (n c m d : Nat) (la lb : List Co) (w : World) (hla : la.length = n) (hlb : lb.length = m) (hn : n + m < 50) (hA : CoinsAt w A la) (hB : CoinsAt w B lb)
    (hsz : ∀ x ∈ la ++ lb, x.s.size ≤ maxLen) (hzb : ∀ x ∈ la ++ lb, x.z.natAbs ≤ 1125899906842624)
    (hsa : sortedB (la.map Co.s) = true) (hsb : sortedB (lb.map Co.s) = true) :
    Calls Tryz.prog 75 #[.slice A n c, .slice B m d] w (RetAdd (la ++ lb) w) := by
  have H := Lib.hid (safeAdd A B n c m d la lb w hla hlb hn hA hB hsz hzb hsa hsb)
  clear hla hlb hn hA hB hsz hzb hsa hsb
  go_enter Tryz.func75, Tryz.ntmps75
  go_wp2_with (first | (go_at_call 124; (with_reducible refine H.out.mono ?_); rintro e w' ⟨v, cs, ks, rfl, h⟩; have H2 := Lib.hid h; clear h))
  go_ret
  exact ⟨v, cs, ks, rfl, H2.out⟩

theorem own_at {w : World} {base n c : Nat} {A : Option Addr} {cs : List Co} (h : CoinsOwn w base (.slice A n c) cs) : CoinsAt w A cs ∧ cs.length = n := by
  obtain ⟨h1, h2⟩ := h
  have hn : cs.length = n := by
    rcases h1.2 with ⟨hv, h0⟩ | ⟨g, cap, cur, hv, _⟩
    · injection hv with _ e _; omega
    · injection hv with _ e _; exact e.symm
  subst hn
  exact ⟨⟨recAt_of_owns (ps := cs.map Co.pair) (by simp) h1, h2⟩, rfl⟩
theorem coins_shape {w : World} {base : Nat} {v : Value} {cs : List Co} (h : CoinsOwn w base v cs) : ∃ A c, v = .slice A cs.length c := own_slice h.1

theorem coal_bound {ks : List ByteArray} {l : List Co} (hl : l.length < 50) (hz : ∀ x ∈ l, x.z.natAbs ≤ 1125899906842624) : ∀ y ∈ coal ks l, y.2.natAbs ≤ 56294995342131200 := by
  intro y hy
  obtain ⟨s, _, hs⟩ := List.mem_filterMap.1 hy
  split at hs
  · cases hs
  · injection hs with hs; subst hs
    have h1 : (total s l).natAbs ≤ (ofS s l).length * 1125899906842624 := sum_bound (ofS s l) _ fun x hx => hz x (List.mem_filter.1 hx).1
    have h2 := ofS_len s l
    have h3 : (ofS s l).length * 1125899906842624 ≤ 49 * 1125899906842624 := Nat.mul_le_mul_right _ (by omega)
    show (total s l).natAbs ≤ _
    omega

theorem fst_of {cs : List Co} {l : List (ByteArray × Int)} (h : cs.map Co.val = l) : cs.map Co.s = l.map Prod.fst := by rw [← h, List.map_map]; rfl
theorem sorted_of {W W' : World} {base c : Nat} {A : Option Addr} {cs : List Co} {l : List (ByteArray × Int)} {r : Bool} (h : CoinsOwn W base (.slice A cs.length c) cs) (hv : cs.map Co.val = l) (e : Ext W W') (hn : cs.length ≤ 1000000) (hr : r = sortedB (l.map Prod.fst)) :
    Calls Tryz.prog 73 #[.slice A cs.length c] W' (RetQ (.bool r) W') := by
  rw [hr, ← fst_of hv]
  exact tSorted A cs.length c cs W' rfl hn ((own_at h).1.ext e).1
theorem mem_val {cs cs' : List Co} {l l' : List (ByteArray × Int)} (h : cs.map Co.val = l) (h' : cs'.map Co.val = l') {x : Co} (hx : x ∈ cs ++ cs') : x.val ∈ l ++ l' := by
  rw [← h, ← h', ← List.map_append]; exact List.mem_map_of_mem hx
theorem ofS_plain {cs cs' : List Co} {l l' : List (ByteArray × Int)} (h : cs.map Co.val = l) (h' : cs'.map Co.val = l') (s : ByteArray) : ofS s (cs ++ cs') ≠ [] ↔ ∃ x ∈ l ++ l', x.1 = s := by
  rw [ofS_ne, ← h, ← h', ← List.map_append]
  constructor
  · rintro ⟨c, hc, e⟩; exact ⟨c.val, List.mem_map_of_mem hc, e⟩
  · rintro ⟨x, hx, e⟩
    obtain ⟨c, hc, rfl⟩ := List.mem_map.1 hx
    exact ⟨c, hc, e⟩
theorem strict_len {ks : List ByteArray} {all : List Co} (hk : ks.Pairwise fun a b => keyLt a b = true) (hm : ∀ s, s ∈ ks ↔ ofS s all ≠ []) : ks.length ≤ all.length := by
  have h1 : ks.length ≤ (all.map Co.s).length := List.Nodup.length_le_of_subset (hk.imp fun {a b} h e => by subst e; rw [keyLt_irrefl] at h; cases h) (fun s hs => by
    obtain ⟨c, hc, e⟩ := ofS_ne.1 ((hm s).1 hs)
    exact List.mem_map.2 ⟨c, hc, e⟩)
  simpa using h1
theorem coal_len {cs3 cs cs2 : List Co} {ks : List ByteArray} {n m : Nat} (hv : cs3.map Co.val = coal ks (cs ++ cs2)) (h1 : cs.length = n) (h2 : cs2.length = m) (hm : ∀ s, s ∈ ks ↔ ofS s (cs ++ cs2) ≠ []) (hk : ks.Pairwise fun a b => keyLt a b = true) : cs3.length ≤ n + m := by
  have e1 : cs3.length = (coal ks (cs ++ cs2)).length := by rw [← hv]; simp
  have e2 : (coal ks (cs ++ cs2)).length ≤ ks.length := List.length_filterMap_le _ _
  have e3 := strict_len hk hm
  simp at e3; omega
theorem back_bound {cs3 : List Co} {ks : List ByteArray} {all : List Co} (hv : cs3.map Co.val = coal ks all) (hl : all.length < 50) (hz : ∀ x ∈ all, x.z.natAbs ≤ 1125899906842624) : ∀ x ∈ cs3, -maxI ≤ x.z ∧ x.z ≤ maxI := by
  intro x hx
  have : x.val ∈ coal ks all := by rw [← hv]; exact List.mem_map_of_mem hx
  have := coal_bound hl hz _ this
  have h2 : x.val.2 = x.z := rfl
  rw [h2] at this
  unfold maxI; omega

set_option maxRecDepth 100000 in
set_option maxHeartbeats 2000000 in
theorem iAddOf (A B : Option Addr) (n c m d : Nat) (l l' : List (ByteArray × Int)) (w : World) (hl : l.length = n) (hl' : l'.length = m) (hn : n + m < 50) (hA : PlainAt w A l) (hB : PlainAt w B l')
    (hsz : ∀ x ∈ l ++ l', x.1.size ≤ maxLen) (hzb : ∀ x ∈ l ++ l', x.2.natAbs ≤ 1125899906842624) :
    Calls Tryz.prog 21 #[.slice A n c, .slice B m d] w (RetAddOf l l' w) := by
  have hb : ∀ x ∈ l ++ l', -maxI ≤ x.2 ∧ x.2 ≤ maxI := fun x hx => by have := hzb x hx; unfold maxI; omega
  have H1 := Lib.hid (iCoins A n c l w hl (by omega) hA fun x hx => hb x (List.mem_append_left _ hx))
  have H2 := Lib.hid (fun (W : World) (e : Ext w W) => iCoins B m d l' W hl' (by omega) (PlainAt.ext hB e) fun x hx => hb x (List.mem_append_right _ hx))
  have HSZ := Lib.hid hsz; have HZB := Lib.hid hzb; have HL := Lib.hid hl; have HL' := Lib.hid hl'
  clear hb hA hB hsz hzb hl hl'
  obtain ⟨r1, hr1⟩ : ∃ r1, r1 = sortedB (l.map Prod.fst) := ⟨_, rfl⟩
  obtain ⟨r2, hr2⟩ : ∃ r2, r2 = sortedB (l'.map Prod.fst) := ⟨_, rfl⟩
  have HR1 := Lib.hid hr1; have HR2 := Lib.hid hr2
  clear hr1 hr2
  cases r1
  · go_enter Tryz.func21, Tryz.ntmps21
    go_wp2_with (first | (go_at_call 72; (with_reducible refine H1.out.mono ?_); rintro e w1 ⟨v, cs, rfl, hcv, hown, hE⟩; obtain ⟨A1, c1, rfl⟩ := coins_shape hown; have HV := Lib.hid hcv; have HO := Lib.hid hown; have HE := Lib.hid hE; have HN := Lib.hid (show cs.length = n by rw [← HL.out, ← hcv]; simp); clear hcv hown hE) | (go_at_call 72; (with_reducible refine (H2.out _ HE.out).mono ?_); rintro e w2 ⟨v2, cs2, rfl, hcv2, hown2, hE2⟩; obtain ⟨A2, c2, rfl⟩ := coins_shape hown2; have HV2 := Lib.hid hcv2; have HO2 := Lib.hid hown2; have HE2 := Lib.hid hE2; have HN2 := Lib.hid (show cs2.length = m by rw [← HL'.out, ← hcv2]; simp); have HC1 := Lib.hid (sorted_of HO.out HV.out hE2 (by rw [HN.out]; omega) HR1.out); have HC2 := Lib.hid (fun q => sorted_of hown2 hcv2 (Ext.drewN' w2 q) (by rw [HN2.out]; omega) HR2.out); clear hcv2 hown2 hE2) | (go_at_call 73; (with_reducible refine HC1.out.mono ?_); rintro e w3 ⟨rfl, q, rfl⟩))
    go_ret2
    unfold RetAddOf
    rw [if_neg (by rw [← HR1.out]; simp)]
    exact ⟨rfl, (HE.out.trans' HE2.out).trans' (Ext.drewN' _ _)⟩
  · cases r2
    · go_enter Tryz.func21, Tryz.ntmps21
      go_wp2_with (first | (go_at_call 72; (with_reducible refine H1.out.mono ?_); rintro e w1 ⟨v, cs, rfl, hcv, hown, hE⟩; obtain ⟨A1, c1, rfl⟩ := coins_shape hown; have HV := Lib.hid hcv; have HO := Lib.hid hown; have HE := Lib.hid hE; have HN := Lib.hid (show cs.length = n by rw [← HL.out, ← hcv]; simp); clear hcv hown hE) | (go_at_call 72; (with_reducible refine (H2.out _ HE.out).mono ?_); rintro e w2 ⟨v2, cs2, rfl, hcv2, hown2, hE2⟩; obtain ⟨A2, c2, rfl⟩ := coins_shape hown2; have HV2 := Lib.hid hcv2; have HO2 := Lib.hid hown2; have HE2 := Lib.hid hE2; have HN2 := Lib.hid (show cs2.length = m by rw [← HL'.out, ← hcv2]; simp); have HC1 := Lib.hid (sorted_of HO.out HV.out hE2 (by rw [HN.out]; omega) HR1.out); have HC2 := Lib.hid (fun q => sorted_of hown2 hcv2 (Ext.drewN' w2 q) (by rw [HN2.out]; omega) HR2.out); clear hcv2 hown2 hE2) | (go_at_call 73; (with_reducible refine HC1.out.mono ?_); rintro e w3 ⟨rfl, q, rfl⟩) | (go_at_call 73; (with_reducible refine (HC2.out _).mono ?_); rintro e w3 ⟨rfl, q2, rfl⟩))
      go_ret2
      unfold RetAddOf
      rw [if_neg (by rw [← HR2.out]; simp)]
      exact ⟨rfl, (HE.out.trans' HE2.out).trans' (Ext.drewN' _ _)⟩
    · go_enter Tryz.func21, Tryz.ntmps21
      go_wp2_with (first | (go_at_call 72; (with_reducible refine H1.out.mono ?_); rintro e w1 ⟨v, cs, rfl, hcv, hown, hE⟩; obtain ⟨A1, c1, rfl⟩ := coins_shape hown; have HV := Lib.hid hcv; have HO := Lib.hid hown; have HE := Lib.hid hE; have HN := Lib.hid (show cs.length = n by rw [← HL.out, ← hcv]; simp); clear hcv hown hE) | (go_at_call 72; (with_reducible refine (H2.out _ HE.out).mono ?_); rintro e w2 ⟨v2, cs2, rfl, hcv2, hown2, hE2⟩; obtain ⟨A2, c2, rfl⟩ := coins_shape hown2; have HV2 := Lib.hid hcv2; have HO2 := Lib.hid hown2; have HE2 := Lib.hid hE2; have HN2 := Lib.hid (show cs2.length = m by rw [← HL'.out, ← hcv2]; simp); have HC1 := Lib.hid (sorted_of HO.out HV.out hE2 (by rw [HN.out]; omega) HR1.out); have HC2 := Lib.hid (fun q => sorted_of hown2 hcv2 (Ext.drewN' w2 q) (by rw [HN2.out]; omega) HR2.out); clear hcv2 hown2 hE2) | (go_at_call 73; (with_reducible refine HC1.out.mono ?_); rintro e w3 ⟨rfl, q, rfl⟩) | (go_at_call 73; (with_reducible refine (HC2.out _).mono ?_); rintro e w3 ⟨rfl, q2, rfl⟩) | (go_at_call 75; refine (tAddCoins A1 A2 cs.length c1 cs2.length c2 cs cs2 _ rfl rfl (by rw [HN.out, HN2.out]; exact hn) ((own_at HO.out).1.ext (HE2.out.trans' (Ext.drewN' _ _))) ((own_at HO2.out).1.ext (Ext.drewN' _ _)) (fun x hx => HSZ.out _ (mem_val HV.out HV2.out hx)) (fun x hx => HZB.out _ (mem_val HV.out HV2.out hx)) (by rw [fst_of HV.out]; exact HR1.out.symm) (by rw [fst_of HV2.out]; exact HR2.out.symm)).mono ?_; rintro e w4 ⟨v3, cs3, ks, rfl, hown3, hE3, hval3, hks, hmem⟩; obtain ⟨A3, c3, rfl⟩ := coins_shape hown3; have HO3 := Lib.hid hown3; have HE3 := Lib.hid hE3; have HV3 := Lib.hid hval3; have HK := Lib.hid hks; have HM := Lib.hid hmem; clear hown3 hE3 hval3 hks hmem) | (go_at_call 74; refine (iBackCoins A3 cs3.length c3 cs3 _ rfl (by have := coal_len HV3.out (HN.out) (HN2.out) HM.out HK.out; omega) (own_at HO3.out).1 (fun x hx => back_bound HV3.out (by simp; rw [HN.out, HN2.out]; exact hn) (fun y hy => HZB.out _ (mem_val HV.out HV2.out hy)) x hx)).mono ?_; rintro e w5 ⟨v5, rfl, ho5, hE5⟩; have HO5 := Lib.hid ho5; have HE5 := Lib.hid hE5; clear ho5 hE5))
      go_ret2
      unfold RetAddOf
      rw [if_pos ⟨HR1.out.symm, HR2.out.symm⟩]
      refine ⟨v5, _, rfl, ⟨ks, HK.out, fun s => (HM.out s).trans (ofS_plain HV.out HV2.out s), by rw [HV3.out, coal_plain, List.map_append, HV.out, HV2.out]⟩, row_low HO5.out ?_, ((HE.out.trans' HE2.out).trans' (Ext.drewN' _ _)).trans' (HE3.out.trans' HE5.out)⟩
      have := HE.out.size; have := HE2.out.size; have := HE3.out.size; simp at this ⊢; omega
end Go.Proofs.YtagfbefgcijegaaGreatDoor
