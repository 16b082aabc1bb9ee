/-
  The contracts of big.Int's Neg, cosmosmath's neg, Int.Neg, Coins.negative.
  The contracts of Coins.negative, NewCoins and MakeCoins of sets, Coins.SafeSub and Sub.
  The contracts of NewCoins and MakeCoins of sets, Coins.SafeSub and Sub, impl.SafeOf and SubOf.
  The contracts of Coins.Sub, impl.SafeOf and SubOf.
  Plain laws: what is added and taken again; sums of sets are sets.
-/
import Derived.Test.YtagfbefgcijegaaGreatDoorGG
import Derived.Test.YtagfbefgcijegaaGreatDoorGB
import Derived.Deep.RegionLaw
import Derived.Test.YtagfbefgcijegaaGreatDoorGD
import Derived.Deep.AppendLies
import Derived.Test.YtagfbefgcijegaaGreatDoorGC
namespace Go.Proofs.YtagfbefgcijegaaGreatDoor
open Go Go.RowKit

theorem bigVal_not (neg : Bool) (ws : List Nat) : bigVal (!neg) ws = -bigVal neg ws := by unfold bigVal; cases neg <;> simp
theorem big_sign {w : World} {b : Nat} {A : Option Addr} {c : Nat} {ws : List Nat} {neg neg' : Bool} (hk : Blk w b 130 [.bool neg, .slice A ws.length c]) (hw : Words w A ws) (hl : ws.length ≤ c) (hN : Norm ws) (h0 : ws = [] → neg' = false) :
    BigAt (w.setCell ⟨b, 0, none⟩ (.bool neg')) b (bigVal neg' ws) :=
  ⟨A, c, ws, neg', hk.set_ 0 (.bool neg'), hw.only ((Only.refl b w).set_ 0 _) (by intro a ha hn; subst ha; exact words_ne hw hn hk (by decide)), hl, hN, h0, rfl⟩

set_option maxRecDepth 100000 in
set_option maxHeartbeats 1000000 in
theorem intNeg (b : Nat) (v : Value) (z : Int) (w : World) (hv : IsBig w v z) (hne : v ≠ .pointer (some ⟨b, 0, none⟩)) (hb : Blk w b 130 [.bool false, .slice none 0 0]) (hz : z.natAbs < B64) :
    Calls Tryz.prog 201 #[.pointer (some ⟨b, 0, none⟩), v] w (RetInto b (-z) w) := by
  have H := Lib.hid (intSet b v z w hv hne hb hz)
  clear hv hne hb hz
  go_enter Tryz.func201, Tryz.ntmps201
  go_wp2_with (fail)
  go_at_call 176
  refine H.out.mono ?_
  rintro e w1 ⟨rfl, hB, hO⟩
  obtain ⟨A, c, ws, neg, hk, hw, hl, hN, h0, hz⟩ := hB
  have HO := Lib.hid hO
  have c0 : w1.cell? ⟨b, 0, none⟩ = some (.bool neg) := (hk.cell 0).trans rfl
  have c1 : w1.cell? ⟨b, 1, none⟩ = some (.slice A ws.length c) := (hk.cell 1).trans rfl
  have f0 := hk.frozen 0
  have HK := Lib.hid (And.intro hk (And.intro hw (And.intro hl (And.intro hN (And.intro h0 hz)))))
  clear hO hk hw hl hN h0 hz
  by_cases he : ws = []
  · subst he
    go_wp2
    go_ret
    refine ⟨rfl, ?_, HO.out.trans' ((Only.refl b w1).set_ 0 _)⟩
    have := big_sign (neg' := false) HK.out.1 HK.out.2.1 HK.out.2.2.1 HK.out.2.2.2.1 (fun _ => rfl)
    rw [HK.out.2.2.2.2.2, show bigVal neg [] = 0 by unfold bigVal; cases neg <;> rfl]
    exact this
  · have hp : 0 < ws.length := List.length_pos_iff.2 he
    obtain ⟨n, hn⟩ : ∃ n, n = ws.length := ⟨_, rfl⟩
    rw [← hn] at c1 hp
    have d1 : decide ((0 : Int) < (n : Int)) = true := by simp; omega
    have HE := Lib.hid he; have HNN := Lib.hid hn; clear he hn
    go_wp2
    go_ret
    refine ⟨rfl, ?_, HO.out.trans' ((Only.refl b w1).set_ 0 _)⟩
    have := big_sign (neg' := !neg) HK.out.1 HK.out.2.1 HK.out.2.2.1 HK.out.2.2.2.1 (fun h => absurd h HE.out)
    rw [HK.out.2.2.2.2.2, ← bigVal_not]
    exact this

set_option maxRecDepth 100000 in
theorem cNeg (v : Value) (z : Int) (w : World) (hv : IsBig w v z) (hz : z.natAbs < B64) : Calls Tryz.prog 182 #[v] w (RetPtr (-z) w) := by
  have H := Lib.hid (intNeg w.heap.size v z _ (hv.ext (ext1 w _)) (big_ne hv) (blk_new0 w _ _) hz)
  clear hv hz
  go_enter Tryz.func182, Tryz.ntmps182
  go_wp2_with (go_at_call 201; refine H.out.mono ?_; rintro e w' ⟨rfl, hr⟩; have HR := Lib.hid hr; clear hr)
  go_ret
  exact ⟨_, rfl, HR.out.1, Only.ext (ext1 w _) HR.out.2 (Nat.le_refl _)⟩

set_option maxRecDepth 100000 in
theorem mNeg (a : Nat) (z : Int) (w : World) (h : BigAt w a z) (hz : z.natAbs < B64) : Calls Tryz.prog 167 #[.agg #[.pointer (some ⟨a, 0, none⟩)]] w (RetInt (-z) w) := by
  have e2 := (Ext.alloc' w (intBox a)).trans' (Ext.alloc' _ (.cells #[.pointer none] 79))
  have H := Lib.hid (cNeg _ z _ (h.ext e2).big hz)
  have k1 := Lib.hid (blk_new1 w (intBox a) 79 [.pointer none])
  clear h hz e2
  go_enter Tryz.func167, Tryz.ntmps167
  go_wp2_with (go_at_call 182; refine H.out.mono ?_; rintro e w1 ⟨r, rfl, hB, hE⟩; have HB := Lib.hid hB; have HE := Lib.hid hE; have d0 : w1.cell? ⟨w.heap.size + 1, 0, none⟩ = some (.pointer none) := ((k1.out.ext hE).cell 0).trans rfl; have f0 := (k1.out.ext hE).frozen 0; clear hB hE)
  exact bodyPost_ret (v := .agg #[.pointer (some ⟨r, 0, none⟩)]) (by simp [results, Tryz.results167, go_sem, d0]) rfl ⟨r, rfl, HB.out.set_ (k1.out.ext HE.out) 0 _, Only.ext ((ext2 _ _ _).trans' HE.out) ((Only.refl _ _).set_ 0 _) (by omega)⟩
end Go.Proofs.YtagfbefgcijegaaGreatDoor

namespace Go.Proofs.YtagfbefgcijegaaGreatDoor
open Go Go.RowKit

/-- The amounts turned. -/
def negs (l : List (ByteArray × Int)) : List (ByteArray × Int) := l.map fun x => (x.1, -x.2)
theorem negs_append (l m : List (ByteArray × Int)) : negs (l ++ m) = negs l ++ negs m := List.map_append
theorem negs_fst (l : List (ByteArray × Int)) : (negs l).map Prod.fst = l.map Prod.fst := by unfold negs; rw [List.map_map]; rfl
theorem negs_mem {l : List (ByteArray × Int)} {x : ByteArray × Int} (h : x ∈ negs l) : (x.1, -x.2) ∈ l := by
  obtain ⟨y, hy, rfl⟩ := List.mem_map.1 h
  simpa using hy
theorem total_negs (s : ByteArray) (l : List (ByteArray × Int)) : totalP s (negs l) = -totalP s l := by
  induction l with
  | nil => rfl
  | cons x l ih =>
    show totalP s ((x.1, -x.2) :: negs l) = _
    rw [totalP_cons, totalP_cons, ih]
    dsimp only
    split <;> omega
/-- Coins with turned amounts handed back. -/
def RetNegs (l : List (ByteArray × Int)) (w : World) (e : Ending) (w' : World) : Prop := ∃ v L, e = .returned v ∧ CoinsOwn w' w.heap.size v L ∧ L.map Co.val = negs l ∧ Ext w w'

set_option maxRecDepth 100000 in
set_option maxHeartbeats 2000000 in
theorem tNegative (A : Option Addr) (n c : Nat) (l : List Co) (w : World) (hl : l.length = n) (hn : n ≤ 100000) (h : CoinsAt w A l) (hz : ∀ x ∈ l, x.z.natAbs < B64) :
    Calls Tryz.prog 146 #[.slice A n c] w (RetNegs (l.map Co.val) w) := by
  obtain ⟨i0, hi, hz0, hz1, hz2⟩ := info_parts infoCoin
  have HL := Lib.hid hl; have HP := Lib.hid h; have HZ := Lib.hid hz
  clear hl h hz
  go_enter Tryz.func146, Tryz.ntmps146
  go_wp2_with (first | (at_make; refine wpList_make_own _ rfl _ _ 70 rfl w.heap.size 81 i0 _ 2 Tryz.underlying70 hi hz0 hz1 .i64 .i64 (n : Int) n rfl rfl rfl (by rw [hz2]; omega) (by unfold maxLen; omega) (Nat.le_refl _) ?_; intro w0 hown0 hg0; have HO0 := Lib.hid (show CoinsOwn w0 w.heap.size _ [] from ⟨hown0, fun _ h => by cases h⟩); have HE0 := Lib.hid (ext_none hg0); clear hown0 hg0))
  go_loopw [3, 11] (fun v i wr => ∃ (k : Nat) (cs : List Co), k ≤ n ∧ i = .int .i64 k ∧ cs.length = k ∧ cs.map Co.val = negs ((l.map Co.val).take k) ∧ CoinsOwn wr w.heap.size v cs ∧ Ext w wr) (fun _ i _ => n - (intOf i).toNat)
  case atStart => exact ⟨0, [], Nat.zero_le _, rfl, rfl, rfl, HO0.out, HE0.out⟩
  case round =>
    obtain ⟨k, cs, hk, rfl, hcl, hcv, hown, hE⟩ := hrel
    have HC := Lib.hid hcl; have HV := Lib.hid hcv; have HO := Lib.hid hown; have HE := Lib.hid hE
    clear hcl hcv hown hE HO0
    by_cases hlt : k < n
    · have hkl : k < l.length := by rw [HL.out]; exact hlt
      obtain ⟨s, hs⟩ : ∃ s, s = l[k].s := ⟨_, rfl⟩
      obtain ⟨b, hb⟩ : ∃ b, b = l[k].b := ⟨_, rfl⟩
      obtain ⟨z, hzz⟩ : ∃ z, z = l[k].z := ⟨_, rfl⟩
      obtain ⟨g, o, hA, hc⟩ := HP.out.1 (by intro e; have := congrArg List.length e; simp at this; rw [this] at hkl; simp at hkl)
      subst hA
      have hck := hc k (by simpa using hkl)
      have cs0 : wr.cell? ⟨g, o + k * 2, none⟩ = some (.string s) := HE.out.cell' (by rw [hck.1, hs]; simp [Co.pair])
      have cs1 : wr.cell? ⟨g, o + k * 2 + 1, none⟩ = some (.pointer (some ⟨b, 0, none⟩)) := HE.out.cell' (by rw [hck.2, hb]; simp [Co.pair])
      have HB := Lib.hid (show BigAt wr b z by rw [hb, hzz]; exact (HP.out.2 _ (List.getElem_mem hkl)).ext HE.out)
      have HX := Lib.hid (show (l.map Co.val)[k]'(by simpa using hkl) = (s, z) by simp [Co.val, hs, hzz])
      have hzb : z.natAbs < B64 := by rw [hzz]; exact HZ.out _ (List.getElem_mem hkl)
      clear hs hb hzz hck hc
      go_wp2
      go_region_law (first | (refine step_append_lies _ rfl (.tmp 15) (.tmp 22) 70 rfl w.heap.size 81 i0 _ 2 24 Tryz.underlying70 hi hz0 hz1 hz2 rfl (by decide) u3 cs.length (flat2 (cs.map Co.pair)) rfl (owns_ext (HO.out.ext HE1.out).1 (ext1 _ _)) ⟨w1.heap.size, 0, none⟩ 1 1 [.string s, .pointer (some ⟨r, 0, none⟩)] rfl rfl (cell_two_new _ _ _ _) (two_one _ _ rfl rfl) (by decide) (by have := HC.out; unfold maxLen; omega) (by have := HC.out; omega) (by have := HE.out.size; have := HE1.out.size; simp; omega) _ rfl ?_; intro g2 cap w2 hown hgrow _ _; have R := Lib.hid (coins_push ((HO.out.ext HE1.out).ext (ext1 _ _)) (HB1.out.ext (ext1 _ _)) ((HE.out.trans' HE1.out).trans' (ext1 _ _)) hown hgrow); clear hown hgrow) | (go_simp; go_at_call 167; refine (mNeg b z _ (by exact HB.out.ext ((Ext.alloc' _ _).trans' (Ext.drewN' _ 1))) hzb).mono ?_; rintro e w1 ⟨r, rfl, hB, hE⟩; have HB1 := Lib.hid hB; have HE1 := Lib.hid ((Ext.alloc' wr (coinBox s b)).trans' (Ext.undrew hE)); have kb := (blk_new0 wr 81 [.string s, .pointer (some ⟨b, 0, none⟩)]).ext (Ext.undrew hE); have c0 : w1.cell? ⟨wr.heap.size, 0, none⟩ = some (.string s) := (kb.cell 0).trans rfl; have hl1 := cell_lt c0; clear hB hE kb))
      all_goals go_wp2
      all_goals exact ⟨⟨k + 1, cs ++ [⟨s, r, -z⟩], by omega, by go_num, by simp [HC.out], by rw [List.map_append, HV.out, List.take_succ_eq_append_getElem (by simpa using hkl), negs_append, HX.out]; rfl, R.out.1, R.out.2⟩, by simp [intOf]; omega⟩
    · obtain rfl : k = n := by omega
      go_wp2
      go_ret
      exact ⟨_, cs, rfl, HO.out, by rw [HV.out, List.take_of_length_le (by simp [HL.out])], HE.out⟩
end Go.Proofs.YtagfbefgcijegaaGreatDoor

namespace Go.Proofs.YtagfbefgcijegaaGreatDoor
open Go Go.RowKit

theorem nz_set {l : List Co} (h : isB (l.map Co.val) = true) : nz l = l := by
  unfold nz; rw [List.filter_eq_self]
  intro x hx
  unfold isB at h; rw [decide_eq_true_iff] at h
  have := (h.1 x.val (List.mem_map_of_mem hx)).2
  have e : x.val.2 = x.z := rfl
  rw [e] at this
  simp; omega
theorem set_self {l L : List Co} (h : isB (l.map Co.val) = true) (hp : L.Perm (nz l)) (hs : L.Pairwise fun a b => le (Co.s a) (Co.s b)) : L = l := by
  rw [nz_set h] at hp
  have := isB_strict h
  rw [List.pairwise_map] at this
  exact asc_unique (key := Co.s) hp hs this

set_option maxRecDepth 100000 in
set_option maxHeartbeats 1000000 in
theorem tNewCoinsSet (A : Option Addr) (n c : Nat) (l : List Co) (w : World) (hl : l.length = n) (hn : n ≤ 12) (h : CoinsAt w A l) (hsz : ∀ x ∈ l, x.s.size ≤ 9223372036854775807) (hb : isB (l.map Co.val) = true) :
    Calls Tryz.prog 145 #[.slice A n c] w (RetOwn l w) := by
  have H1 := Lib.hid (tSanitize A n c l w hl hn h)
  have HL := Lib.hid hl; have HSZ := Lib.hid hsz; have HB := Lib.hid hb
  clear hl h hsz hb
  go_enter Tryz.func145, Tryz.ntmps145
  go_wp2_with (fail)
  go_at_call 135
  refine H1.out.mono ?_
  rintro e w1 ⟨v, L, rfl, hown, hp, hs, hE⟩
  obtain rfl := set_self HB.out hp hs
  obtain ⟨A1, c1, rfl, hc1, hc2⟩ := own_cap2 hown.1
  have HO := Lib.hid hown; have HE := Lib.hid hE; have HC := Lib.hid (And.intro hc1 hc2)
  clear hown hE hp hs hc1 hc2
  go_wp2_with (fail)
  go_at_call 103
  refine (tValidate A1 L.length c1 L _ rfl (by have := HL.out; omega) HC.out.1 HC.out.2 (own_at HO.out).1 HSZ.out).mono ?_
  rintro e w2 ⟨o, ho, hr⟩
  obtain rfl := errIs_unique (isB_err.2 HB.out) ho
  obtain ⟨rfl, hE⟩ := hr
  have HE2 := Lib.hid hE; clear hE ho
  go_wp2
  go_ret
  exact ⟨_, rfl, HO.out.ext HE2.out, HE.out.trans' HE2.out⟩
theorem tMakeCoinsSet (A : Option Addr) (n c : Nat) (l : List Co) (w : World) (hl : l.length = n) (hn : n ≤ 12) (h : CoinsAt w A l) (hsz : ∀ x ∈ l, x.s.size ≤ 9223372036854775807) (hb : isB (l.map Co.val) = true) :
    Calls Tryz.prog 89 #[.slice A n c] w fun e w' => ∃ v, e = .returned (.tuple #[v, .nilIface]) ∧ Ext w w' := by
  refine (tMakeCoins A n c l w hl hn h hsz).mono ?_
  rintro e w' ⟨L, hp, hs, hE, hr⟩
  obtain rfl := set_self hb hp hs
  rcases hr with ⟨_, v, he, _⟩ | ⟨⟨t, ht⟩, _⟩
  · exact ⟨v, he, hE⟩
  · have := errIs_unique (isB_err.2 hb) ht; cases this

/-- The difference of coins, and whether an amount of it is negative. -/
def RetSafeC (l m : List (ByteArray × Int)) (w : World) (e : Ending) (w' : World) : Prop :=
  ∃ v cs, e = .returned (.tuple #[v, .bool (negB (cs.map Co.val))]) ∧ CoinsOwn w' w.heap.size v cs ∧ IsAdd (l ++ negs m) (cs.map Co.val) ∧ cs.length ≤ l.length + m.length ∧ Ext w w'
theorem own_lower {w : World} {b b' : Nat} {v : Value} {cs : List Co} (h : CoinsOwn w b v cs) (hb : b' ≤ b) : CoinsOwn w b' v cs := ⟨row_low h.1 hb, h.2⟩

set_option maxRecDepth 100000 in
set_option maxHeartbeats 2000000 in
theorem tSafeSubC (A B : Option Addr) (n c m d : Nat) (la lb : List Co) (w : World) (hla : la.length = n) (hlb : lb.length = m) (hn : n + m < 50) (hm : m ≤ 12) (hA : CoinsAt w A la) (hB : CoinsAt w B lb)
    (hsz : ∀ x ∈ la ++ lb, x.s.size ≤ maxLen) (hzb : ∀ x ∈ la ++ lb, x.z.natAbs ≤ 1125899906842624) (hsa : sortedB (la.map Co.s) = true) (hb : isB (lb.map Co.val) = true) :
    Calls Tryz.prog 106 #[.slice A n c, .slice B m d] w (RetSafeC (la.map Co.val) (lb.map Co.val) w) := by
  have H1 := Lib.hid (tNewCoinsSet B m d lb w hlb hm hB (fun x hx => by have := hsz x (List.mem_append_right _ hx); unfold maxLen at this; exact Nat.le_trans this (by decide)) hb)
  have HLA := Lib.hid hla; have HLB := Lib.hid hlb; have HA := Lib.hid hA; have HSZ := Lib.hid hsz; have HZB := Lib.hid hzb; have HSA := Lib.hid hsa
  have HSB := Lib.hid (show sortedB (lb.map Co.s) = true by
    have h1 := strict_sorted (isB_strict hb)
    rwa [List.map_map, show (Prod.fst ∘ Co.val) = Co.s from rfl] at h1)
  have HN := Lib.hid hn; have HM := Lib.hid hm
  clear hla hlb hA hB hsz hzb hsa hb hn hm
  go_enter Tryz.func106, Tryz.ntmps106
  go_wp2_with (fail)
  go_at_call 145
  refine H1.out.mono ?_
  rintro e w1 ⟨v1, rfl, hown, hE⟩
  obtain ⟨A1, c1, rfl⟩ := coins_shape hown
  have HO1 := Lib.hid (own_at hown).1; have HE1 := Lib.hid hE; clear hown hE
  go_wp2_with (fail)
  go_at_call 146
  refine (tNegative A1 lb.length c1 lb _ rfl (by have := HLB.out; have := HM.out; omega) HO1.out (fun x hx => by have := HZB.out x (List.mem_append_right _ hx); unfold B64; omega)).mono ?_
  rintro e w2 ⟨v2, L, rfl, hown, hval, hE⟩
  obtain ⟨A2, c2, rfl⟩ := coins_shape hown
  have HO2 := Lib.hid (own_at hown).1; have HE2 := Lib.hid hE; have HV := Lib.hid hval; have HLL := Lib.hid (show L.length = lb.length by have := congrArg List.length hval; simpa [negs] using this)
  clear hown hE hval
  have HF := Lib.hid (show L.map Co.s = lb.map Co.s by
    have := congrArg (List.map Prod.fst) HV.out
    rw [negs_fst, List.map_map, List.map_map] at this
    exact this)
  have HLM := Lib.hid (show ∀ x ∈ L, x.s.size ≤ maxLen ∧ x.z.natAbs ≤ 1125899906842624 from fun x hx => by
    have h1 : x.val ∈ negs (lb.map Co.val) := by rw [← HV.out]; exact List.mem_map_of_mem hx
    have h2 := negs_mem h1
    obtain ⟨y, hy, he⟩ := List.mem_map.1 h2
    have h3 := HSZ.out y (List.mem_append_right _ hy)
    have h4 := HZB.out y (List.mem_append_right _ hy)
    have e1 : y.s = x.s := congrArg Prod.fst he
    have e2 : y.z = -x.z := congrArg Prod.snd he
    rw [e1] at h3; rw [e2] at h4
    exact ⟨h3, by omega⟩)
  go_wp2_with (fail)
  go_at_call 124
  refine (safeAdd A A2 n c L.length c2 la L _ HLA.out rfl (by have := HLL.out; have := HLB.out; have := HN.out; omega) (HA.out.ext (HE1.out.trans' HE2.out)) HO2.out
    (fun x hx => (List.mem_append.1 hx).elim (fun h => HSZ.out x (List.mem_append_left _ h)) (fun h => (HLM.out x h).1)) (fun x hx => (List.mem_append.1 hx).elim (fun h => HZB.out x (List.mem_append_left _ h)) (fun h => (HLM.out x h).2)) HSA.out (by rw [HF.out]; exact HSB.out)).mono ?_
  rintro e w3 ⟨v3, cs, ks, rfl, hown, hE, hval, hks, hmem⟩
  obtain ⟨A3, c3, rfl⟩ := coins_shape hown
  have HO3 := Lib.hid hown; have HE3 := Lib.hid hE
  have HLEN := Lib.hid (coal_len hval HLA.out rfl hmem hks)
  have HAD := Lib.hid (show IsAdd (la.map Co.val ++ negs (lb.map Co.val)) (cs.map Co.val) from ⟨ks, hks, fun s => (hmem s).trans (ofS_plain rfl HV.out s), by rw [hval, coal_plain, List.map_append, HV.out]⟩)
  clear hown hE hval hks hmem
  go_wp2_with (fail)
  go_at_call 101
  refine (tAnyNeg A3 cs.length c3 cs _ rfl (by have := HLEN.out; have := HN.out; have := HLL.out; have := HLB.out; omega) (own_at HO3.out).1).mono ?_
  rintro e w4 ⟨rfl, hE⟩
  rw [neg_val rfl]
  have HE4 := Lib.hid hE; clear hE
  obtain ⟨b, hb⟩ : ∃ b, b = negB (cs.map Co.val) := ⟨_, rfl⟩
  rw [← hb]
  have HB := Lib.hid hb; clear hb
  go_wp2
  go_ret2
  exact ⟨_, cs, by rw [HB.out]; rfl, own_lower (HO3.out.ext HE4.out) (HE1.out.trans' HE2.out).size, HAD.out, by have := HLEN.out; have := HLL.out; have := HLA.out; simp; omega, ((HE1.out.trans' HE2.out).trans' HE3.out).trans' HE4.out⟩
end Go.Proofs.YtagfbefgcijegaaGreatDoor

namespace Go.Proofs.YtagfbefgcijegaaGreatDoor
open Go Go.RowKit

/-- The difference of a sorted list and a set, in plain data. -/
def RetSafeOf (l m : List (ByteArray × Int)) (w : World) (e : Ending) (w' : World) : Prop :=
  ∃ v r, e = .returned (.tuple #[v, .bool (negB r), .bool true]) ∧ IsAdd (l ++ negs m) r ∧ PlainOwn w' w.heap.size 37 v r ∧ Ext w w'
/-- The difference, unless an amount is negative. -/
def RetSubOf (l m : List (ByteArray × Int)) (w : World) (e : Ending) (w' : World) : Prop :=
  ∃ r, IsAdd (l ++ negs m) r ∧ Ext w w' ∧ ((negB r = true ∧ e = .returned (.tuple #[.slice none 0 0, .bool false])) ∨ negB r = false ∧ ∃ v, e = .returned (.tuple #[v, .bool true]) ∧ PlainOwn w' w.heap.size 37 v r)
theorem mem_co {cs : List Co} {l : List (ByteArray × Int)} (h : cs.map Co.val = l) {x : Co} (hx : x ∈ cs) : x.val ∈ l := by rw [← h]; exact List.mem_map_of_mem hx
theorem add_max {l r : List (ByteArray × Int)} (h : IsAdd l r) (hl : l.length ≤ 50) (hb : ∀ x ∈ l, x.2.natAbs ≤ 1125899906842624) : ∀ x ∈ r, -maxI ≤ x.2 ∧ x.2 ≤ maxI := by
  intro x hx
  have h1 := isAdd_bound (m := 1125899906842624) h hb x hx
  have h2 : l.length * 1125899906842624 ≤ 50 * 1125899906842624 := Nat.mul_le_mul_right _ hl
  unfold maxI; omega
theorem negs_abs {l : List (ByteArray × Int)} {m : Nat} (h : ∀ x ∈ l, x.2.natAbs ≤ m) : ∀ x ∈ negs l, x.2.natAbs ≤ m := by
  intro x hx
  have := h _ (negs_mem hx)
  dsimp only at this; omega

set_option maxRecDepth 100000 in
set_option maxHeartbeats 1000000 in
theorem tSubC (A B : Option Addr) (n c m d : Nat) (la lb : List Co) (w : World) (hla : la.length = n) (hlb : lb.length = m) (hn : n + m < 50) (hm : m ≤ 12) (hA : CoinsAt w A la) (hB : CoinsAt w B lb)
    (hsz : ∀ x ∈ la ++ lb, x.s.size ≤ maxLen) (hzb : ∀ x ∈ la ++ lb, x.z.natAbs ≤ 1125899906842624) (hsa : sortedB (la.map Co.s) = true) (hb : isB (lb.map Co.val) = true)
    (hneg : ∀ r, IsAdd (la.map Co.val ++ negs (lb.map Co.val)) r → negB r = false) :
    Calls Tryz.prog 107 #[.slice A n c, .slice B m d] w fun e w' => ∃ v cs, e = .returned v ∧ CoinsOwn w' w.heap.size v cs ∧ IsAdd (la.map Co.val ++ negs (lb.map Co.val)) (cs.map Co.val) ∧ cs.length ≤ n + m ∧ Ext w w' := by
  have H1 := Lib.hid (tSafeSubC A B n c m d la lb w hla hlb hn hm hA hB hsz hzb hsa hb)
  have HL := Lib.hid (And.intro hla hlb); have HNG := Lib.hid hneg
  clear hla hlb hn hm hA hB hsz hzb hsa hb hneg
  go_enter Tryz.func107, Tryz.ntmps107
  go_wp2_with (fail)
  go_at_call 106
  refine H1.out.mono ?_
  rintro e w1 ⟨v, cs, rfl, hown, had, hlen, hE⟩
  rw [HNG.out _ had]
  have HR := Lib.hid (And.intro hown (And.intro had (And.intro hlen hE)))
  clear hown had hlen hE
  go_wp2
  go_ret
  exact ⟨v, cs, rfl, HR.out.1, HR.out.2.1, by have := HR.out.2.2.1; have := HL.out.1; have := HL.out.2; simp at *; omega, HR.out.2.2.2⟩

set_option maxRecDepth 100000 in
set_option maxHeartbeats 2000000 in
theorem iSafeOf (A B : Option Addr) (n c m d : Nat) (l l' : List (ByteArray × Int)) (w : World) (hl : l.length = n) (hl' : l'.length = m) (hn : n + m < 50) (hm : m ≤ 12) (hA : PlainAt w A l) (hB : PlainAt w B l')
    (hsz : ∀ x ∈ l ++ l', x.1.size ≤ maxLen) (hzb : ∀ x ∈ l ++ l', x.2.natAbs ≤ 1125899906842624) (hsa : sortedB (l.map Prod.fst) = true) (hb : isB l' = true) :
    Calls Tryz.prog 54 #[.slice A n c, .slice B m d] w (RetSafeOf l l' w) := by
  have hz : ∀ x ∈ l ++ l', -maxI ≤ x.2 ∧ x.2 ≤ maxI := fun x hx => by have := hzb x hx; unfold maxI; omega
  have HCA := Lib.hid (fun (W : World) (e : Ext w W) => iCoins A n c l W hl (by omega) (hA.ext e) (fun x hx => hz x (List.mem_append_left _ hx)))
  have HCB := Lib.hid (fun (W : World) (e : Ext w W) => iCoins B m d l' W hl' (by omega) (hB.ext e) (fun x hx => hz x (List.mem_append_right _ hx)))
  have HL := Lib.hid hl; have HL' := Lib.hid hl'; have HN := Lib.hid (And.intro hn hm); have HSZ := Lib.hid hsz; have HZB := Lib.hid hzb; have HS := Lib.hid hsa; have HB := Lib.hid hb
  clear hl hl' hn hm hA hB hsz hzb hsa hb hz
  go_enter Tryz.func54, Tryz.ntmps54
  go_wp2_with (fail)
  go_at_call 72
  refine (HCB.out _ (Ext.refl _)).mono ?_
  rintro e w1 ⟨v1, cs1, rfl, hv, hown, hE⟩
  obtain ⟨A1, c1, rfl⟩ := coins_shape hown
  have HO1 := Lib.hid (own_at hown).1; have HV1 := Lib.hid hv; have HE1 := Lib.hid hE; have HN1 := Lib.hid (show cs1.length = m by rw [← HL'.out, ← hv]; simp)
  clear hown hv hE
  go_wp2_with (fail)
  go_at_call 89
  refine (tMakeCoinsSet A1 cs1.length c1 cs1 _ rfl (by have := HN1.out; have := HN.out; omega) HO1.out (fun x hx => by have := HSZ.out _ (List.mem_append_right _ (mem_co HV1.out hx)); unfold maxLen at this; exact Nat.le_trans this (by decide)) (by rw [HV1.out]; exact HB.out)).mono ?_
  rintro e w2 ⟨v2, rfl, hE⟩
  have HE2 := Lib.hid (HE1.out.trans' hE); clear hE
  go_wp2_with (fail)
  go_at_call 72
  refine (HCA.out _ HE2.out).mono ?_
  rintro e w3 ⟨v3, cs3, rfl, hv, hown, hE⟩
  obtain ⟨A3, c3, rfl⟩ := coins_shape hown
  have HO3 := Lib.hid hown; have HV3 := Lib.hid hv; have HE3 := Lib.hid (HE2.out.trans' hE); have HN3 := Lib.hid (show cs3.length = n by rw [← HL.out, ← hv]; simp)
  clear hown hv hE
  go_wp2_with (fail)
  go_at_call 73
  refine (sorted_of HO3.out HV3.out (Ext.refl _) (by have := HN3.out; have := HN.out; omega) HS.out.symm).mono ?_
  rintro e w4 ⟨rfl, hq⟩
  have HE4 := Lib.hid (HE3.out.trans' (ext_q hq)); clear hq
  go_wp2_with (fail)
  go_at_call 72
  refine (HCA.out _ HE4.out).mono ?_
  rintro e w5 ⟨v5, cs5, rfl, hv, hown, hE⟩
  obtain ⟨A5, c5, rfl⟩ := coins_shape hown
  have HO5 := Lib.hid (own_at hown).1; have HV5 := Lib.hid hv; have HE5 := Lib.hid (HE4.out.trans' hE); have HN5 := Lib.hid (show cs5.length = n by rw [← HL.out, ← hv]; simp)
  clear hown hv hE
  go_wp2_with (fail)
  go_at_call 72
  refine (HCB.out _ HE5.out).mono ?_
  rintro e w6 ⟨v6, cs6, rfl, hv, hown, hE⟩
  obtain ⟨A6, c6, rfl⟩ := coins_shape hown
  have HO6 := Lib.hid (own_at hown).1; have HV6 := Lib.hid hv; have HE6 := Lib.hid (HE5.out.trans' hE); have HN6 := Lib.hid (show cs6.length = m by rw [← HL'.out, ← hv]; simp); have HO5' := Lib.hid (HO5.out.ext hE)
  clear hown hv hE
  go_wp2_with (fail)
  go_at_call 106
  refine (tSafeSubC A5 A6 cs5.length c5 cs6.length c6 cs5 cs6 _ rfl rfl (by have := HN5.out; have := HN6.out; have := HN.out; omega) (by have := HN6.out; have := HN.out; omega) HO5'.out HO6.out (fun x hx => HSZ.out _ (mem_val HV5.out HV6.out hx)) (fun x hx => HZB.out _ (mem_val HV5.out HV6.out hx)) (by rw [fst_of HV5.out]; exact HS.out) (by rw [HV6.out]; exact HB.out)).mono ?_
  rintro e w7 ⟨v7, cs7, rfl, hown, had, hlen, hE⟩
  obtain ⟨A7, c7, rfl⟩ := coins_shape hown
  rw [HV5.out, HV6.out] at had
  have HO7 := Lib.hid (own_at hown).1; have HE7 := Lib.hid (HE6.out.trans' hE); have HAD := Lib.hid had
  have HLN := Lib.hid (show cs7.length ≤ n + m by have := HN5.out; have := HN6.out; simp at hlen; omega)
  clear hown had hlen hE
  have HBM := Lib.hid (add_max HAD.out (by have := HL.out; have := HL'.out; have := HN.out; simp [negs]; omega) (both2 (fun x hx => HZB.out x (List.mem_append_left _ hx)) (negs_abs fun x hx => HZB.out x (List.mem_append_right _ hx))))
  obtain ⟨bb, hbb⟩ : ∃ b, b = negB (cs7.map Co.val) := ⟨_, rfl⟩
  rw [← hbb]
  have HBB := Lib.hid hbb; clear hbb
  go_wp2_with (fail)
  go_at_call 74
  refine (iBackCoins A7 cs7.length c7 cs7 _ rfl (by have := HLN.out; have := HN.out; omega) HO7.out (fun x hx => HBM.out _ (List.mem_map_of_mem hx))).mono ?_
  rintro e w8 ⟨v8, rfl, ho, hE⟩
  have HO8 := Lib.hid ho; have HE8 := Lib.hid hE; clear ho hE
  go_wp2
  exact bodyPost_ret (v := .tuple #[v8, .bool bb, .bool true]) (by simp [results, Tryz.results54, go_sem]) rfl ⟨v8, _, by rw [HBB.out], HAD.out, row_low HO8.out HE7.out.size, HE7.out.trans' HE8.out⟩

set_option maxRecDepth 100000 in
set_option maxHeartbeats 2000000 in
theorem iSubOf (A B : Option Addr) (n c m d : Nat) (l l' : List (ByteArray × Int)) (w : World) (hl : l.length = n) (hl' : l'.length = m) (hn : n + m < 50) (hm : m ≤ 12) (hA : PlainAt w A l) (hB : PlainAt w B l')
    (hsz : ∀ x ∈ l ++ l', x.1.size ≤ maxLen) (hzb : ∀ x ∈ l ++ l', x.2.natAbs ≤ 1125899906842624) (hsa : sortedB (l.map Prod.fst) = true) (hb : isB l' = true) :
    Calls Tryz.prog 55 #[.slice A n c, .slice B m d] w (RetSubOf l l' w) := by
  have hz : ∀ x ∈ l ++ l', -maxI ≤ x.2 ∧ x.2 ≤ maxI := fun x hx => by have := hzb x hx; unfold maxI; omega
  have H1 := Lib.hid (iSafeOf A B n c m d l l' w hl hl' hn hm hA hB hsz hzb hsa hb)
  have HCA := Lib.hid (fun (W : World) (e : Ext w W) => iCoins A n c l W hl (by omega) (hA.ext e) (fun x hx => hz x (List.mem_append_left _ hx)))
  have HCB := Lib.hid (fun (W : World) (e : Ext w W) => iCoins B m d l' W hl' (by omega) (hB.ext e) (fun x hx => hz x (List.mem_append_right _ hx)))
  have HL := Lib.hid hl; have HL' := Lib.hid hl'; have HN := Lib.hid (And.intro hn hm); have HSZ := Lib.hid hsz; have HZB := Lib.hid hzb; have HS := Lib.hid hsa; have HB := Lib.hid hb
  clear hl hl' hn hm hA hB hsz hzb hsa hb hz
  go_enter Tryz.func55, Tryz.ntmps55
  go_wp2_with (fail)
  go_at_call 54
  refine H1.out.mono ?_
  rintro e w1 ⟨v1, r, rfl, had, _, hE⟩
  have HAD := Lib.hid had; have HE1 := Lib.hid hE; clear had hE
  cases hneg : negB r
  · have HNG := Lib.hid hneg; clear hneg
    go_wp2_with (fail)
    go_at_call 72
    refine (HCA.out _ HE1.out).mono ?_
    rintro e w5 ⟨v5, cs5, rfl, hv, hown, hE⟩
    obtain ⟨A5, c5, rfl⟩ := coins_shape hown
    have HO5 := Lib.hid (own_at hown).1; have HV5 := Lib.hid hv; have HE5 := Lib.hid (HE1.out.trans' hE); have HN5 := Lib.hid (show cs5.length = n by rw [← HL.out, ← hv]; simp)
    clear hown hv hE
    go_wp2_with (fail)
    go_at_call 72
    refine (HCB.out _ HE5.out).mono ?_
    rintro e w6 ⟨v6, cs6, rfl, hv, hown, hE⟩
    obtain ⟨A6, c6, rfl⟩ := coins_shape hown
    have HO6 := Lib.hid (own_at hown).1; have HV6 := Lib.hid hv; have HE6 := Lib.hid (HE5.out.trans' hE); have HN6 := Lib.hid (show cs6.length = m by rw [← HL'.out, ← hv]; simp); have HO5' := Lib.hid (HO5.out.ext hE)
    clear hown hv hE
    go_wp2_with (fail)
    go_at_call 107
    refine (tSubC A5 A6 cs5.length c5 cs6.length c6 cs5 cs6 _ rfl rfl (by have := HN5.out; have := HN6.out; have := HN.out; omega) (by have := HN6.out; have := HN.out; omega) HO5'.out HO6.out (fun x hx => HSZ.out _ (mem_val HV5.out HV6.out hx)) (fun x hx => HZB.out _ (mem_val HV5.out HV6.out hx)) (by rw [fst_of HV5.out]; exact HS.out) (by rw [HV6.out]; exact HB.out) (fun r' hr' => by rw [HV5.out, HV6.out] at hr'; rw [isAdd_unique hr' HAD.out]; exact HNG.out)).mono ?_
    rintro e w7 ⟨v7, cs7, rfl, hown, had, hlen, hE⟩
    obtain ⟨A7, c7, rfl⟩ := coins_shape hown
    rw [HV5.out, HV6.out] at had
    obtain hr := isAdd_unique had HAD.out
    have HO7 := Lib.hid (own_at hown).1; have HE7 := Lib.hid (HE6.out.trans' hE); have HR := Lib.hid hr
    have HLN := Lib.hid (show cs7.length ≤ n + m by have := HN5.out; have := HN6.out; omega)
    clear hown had hlen hE hr
    have HBM := Lib.hid (add_max HAD.out (by have := HL.out; have := HL'.out; have := HN.out; simp [negs]; omega) (both2 (fun x hx => HZB.out x (List.mem_append_left _ hx)) (negs_abs fun x hx => HZB.out x (List.mem_append_right _ hx))))
    go_wp2_with (fail)
    go_at_call 74
    refine (iBackCoins A7 cs7.length c7 cs7 _ rfl (by have := HLN.out; have := HN.out; omega) HO7.out (fun x hx => HBM.out _ (by rw [← HR.out]; exact List.mem_map_of_mem hx))).mono ?_
    rintro e w8 ⟨v8, rfl, ho, hE⟩
    rw [HR.out] at ho
    have HO8 := Lib.hid ho; have HE8 := Lib.hid hE; clear ho hE
    go_wp2
    go_ret2
    exact ⟨r, HAD.out, HE7.out.trans' HE8.out, Or.inr ⟨HNG.out, v8, rfl, row_low HO8.out HE7.out.size⟩⟩
  · have HNG := Lib.hid hneg; clear hneg
    go_wp2
    go_ret2
    exact ⟨r, HAD.out, HE1.out, Or.inl ⟨HNG.out, rfl⟩⟩
end Go.Proofs.YtagfbefgcijegaaGreatDoor

namespace Go.Proofs.YtagfbefgcijegaaGreatDoor
open Go Go.RowKit

theorem setB_is {l : List (ByteArray × Int)} (h : setB l = true) : isB l = true := by unfold setB at h; rw [Bool.and_eq_true] at h; exact h.2
theorem setB_sums {l : List (ByteArray × Int)} (h : setB l = true) : SumsTo l l := ⟨setB_strict h, fun y hy => by have := setB_pos h y hy; omega, fun _ => rfl⟩
theorem negB_pos {l : List (ByteArray × Int)} (h : ∀ x ∈ l, 0 < x.2) : negB l = false := by
  unfold negB; rw [List.any_eq_false]; intro x hx; have := h x hx; simp; omega
/-- What SubOf comes to where the difference is the set r. -/
theorem sub_is {l m r : List (ByteArray × Int)} {w w' : World} {e : Ending} (h : RetSubOf l m w e w') (hr : SumsTo (l ++ negs m) r) (hp : ∀ x ∈ r, 0 < x.2) :
    ∃ v, e = .returned (.tuple #[v, .bool true]) ∧ PlainOwn w' w.heap.size 37 v r ∧ Ext w w' := by
  obtain ⟨r', had, hE, h⟩ := h
  obtain rfl : r' = r := sums_unique (isAdd_sums had) hr fun _ => rfl
  rcases h with ⟨hn, _⟩ | ⟨_, v, he, ho⟩
  · rw [negB_pos hp] at hn; cases hn
  · exact ⟨v, he, ho, hE⟩
theorem back_sums {a b r : List (ByteArray × Int)} (h : IsAdd (a ++ b) r) (ha : SumsTo a a) : SumsTo (r ++ negs b) a :=
  ⟨ha.1, ha.2.1, fun s => by rw [totalP_append, total_negs, (isAdd_sums h).2.2, totalP_append]; omega⟩
theorem self_sums (a : List (ByteArray × Int)) : SumsTo (a ++ negs a) [] :=
  ⟨List.Pairwise.nil, (fun y hy => by cases hy), fun s => by rw [totalP_append, total_negs, totalP_nil]; omega⟩
theorem total_nonneg {l : List (ByteArray × Int)} (h : ∀ x ∈ l, 0 < x.2) (s : ByteArray) : 0 ≤ totalP s l := by
  induction l with
  | nil => simp [totalP_nil]
  | cons x l ih =>
    have h1 := h x (by simp)
    have h2 := ih (fun y hy => h y (by simp [hy]))
    rw [totalP_cons]
    split <;> omega
/-- The sum of sets is a set. -/
theorem isB_add {a r : List (ByteArray × Int)} (h : IsAdd a r) (hp : ∀ x ∈ a, 0 < x.2) (hd : ∀ x ∈ a, denomB x.1 = true) : isB r = true := by
  have hs := isAdd_sums h
  unfold isB; rw [decide_eq_true_iff]
  refine ⟨fun x hx => ?_, hs.1⟩
  have h1 : totalP x.1 a = x.2 := by rw [← hs.2.2, tot_get hs.1 hx]
  have h2 := hs.2.1 x hx
  have h3 := total_nonneg hp x.1
  refine ⟨?_, by omega⟩
  obtain ⟨ks, _, hm, rfl⟩ := h
  obtain ⟨y, hy, e⟩ := (hm x.1).1 (coalP_mem hx).1
  rw [← e]; exact hd y hy
theorem words_set {l : List (ByteArray × Int)} {w w' : World} {e : Ending} (h : RetWords l w e w') (hb : isB l = true) : e = .returned (.string ⟨#[]⟩) ∧ Ext w w' := by
  obtain ⟨o, ho, he, hE⟩ := h
  obtain rfl := errIs_unique (isB_err.2 hb) ho
  exact ⟨he, hE⟩
end Go.Proofs.YtagfbefgcijegaaGreatDoor
