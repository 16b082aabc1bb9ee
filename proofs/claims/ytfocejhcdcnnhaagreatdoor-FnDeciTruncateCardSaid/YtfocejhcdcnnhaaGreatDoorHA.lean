/-
  DecCoins.negative, SafeSub, Sub; impl.DecSafe, DecSub.
  The specification's DeciLess: each number with its sign turned.
-/
import Derived.Test.YtfocejhcdcnnhaaGreatDoorGR
import Derived.Test.YtfocejhcdcnnhaaGreatDoorGV
import Derived.Test.YtfocejhcdcnnhaaGreatDoorGY
import Derived.Deep.RegionLaw
import Derived.Test.YtfocejhcdcnnhaaGreatDoorGZ
namespace Go.Proofs.YtfocejhcdcnnhaaGreatDoor
open Go Go.RowKit

def dnegs (l : List (ByteArray × Int)) : List (ByteArray × Int) := l.map fun x => (x.1, -x.2)
theorem dnegs_append (l m : List (ByteArray × Int)) : dnegs (l ++ m) = dnegs l ++ dnegs m := List.map_append
theorem dnegs_mem {l : List (ByteArray × Int)} {x : ByteArray × Int} (h : x ∈ dnegs l) : (x.1, -x.2) ∈ l := by
  obtain ⟨y, hy, rfl⟩ := List.mem_map.1 h
  simpa using hy
theorem dnegs_asc {l : List (ByteArray × Int)} (h : AscP l) : AscP (dnegs l) := List.pairwise_map.2 h
theorem dnegs_len (l : List (ByteArray × Int)) : (dnegs l).length = l.length := List.length_map _

set_option maxRecDepth 100000 in
set_option maxHeartbeats 2000000 in
theorem tdNegative (A : Option Addr) (n c : Nat) (l : List Co) (w : World) (hl : l.length = n) (hn : n ≤ 100000) (h : DCoinsAt w A l) (hz : ∀ x ∈ l, Small x.z) :
    Calls Tryz.prog 108 #[.slice A n c] w (RetDCoins (dnegs (l.map Co.val)) w) := by
  obtain ⟨i0, hi, hz0, hz1, hz2⟩ := info_parts infoDCoin
  have HL := Lib.hid hl; have HP := Lib.hid h; have HZ := Lib.hid hz
  clear hl h hz
  go_enter Tryz.func108, Tryz.ntmps108
  go_wp2_with (first | (at_make; refine wpList_make_own _ rfl _ _ 71 rfl w.heap.size 106 i0 _ 2 Tryz.underlying71 hi hz0 hz1 .i64 .i64 (n : Int) n rfl rfl rfl (by rw [hz2]; omega) (by unfold maxLen; omega) (Nat.le_refl _) ?_; intro w0 hown0 hg0; have HO0 := Lib.hid (show DCoinsOwn w0 w.heap.size _ [] from ⟨hown0, fun _ h => by cases h⟩); have HE0 := Lib.hid (dext_none hg0); clear hown0 hg0))
  go_loopw [3, 11] (fun v i wr => ∃ (k : Nat) (cs : List Co), k ≤ n ∧ i = .int .i64 k ∧ cs.length = k ∧ cs.map Co.val = dnegs ((l.map Co.val).take k) ∧ DCoinsOwn wr w.heap.size v cs ∧ Ext w wr) (fun _ i _ => n - (intOf i).toNat)
  case atStart => exact ⟨0, [], Nat.zero_le _, rfl, rfl, rfl, HO0.out, HE0.out⟩
  case round =>
    obtain ⟨k, cs, hk, rfl, hcl, hcv, hown, hE⟩ := hrel
    have HC := Lib.hid hcl; have HV := Lib.hid hcv; have HO := Lib.hid hown; have HE := Lib.hid hE
    clear hcl hcv hown hE HO0
    by_cases hlt : k < n
    · have hkl : k < l.length := by rw [HL.out]; exact hlt
      obtain ⟨s, hs⟩ : ∃ s, s = l[k].s := ⟨_, rfl⟩
      obtain ⟨b, hb⟩ : ∃ b, b = l[k].b := ⟨_, rfl⟩
      obtain ⟨z, hzz⟩ : ∃ z, z = l[k].z := ⟨_, rfl⟩
      obtain ⟨g, o, hA, hc⟩ := HP.out.1 (by intro e; have := congrArg List.length e; simp at this; rw [this] at hkl; simp at hkl)
      subst hA
      have hck := hc k (by simpa using hkl)
      have cs0 : wr.cell? ⟨g, o + k * 2, none⟩ = some (.string s) := HE.out.cell' (by rw [hck.1, hs]; simp [Co.pair])
      have cs1 : wr.cell? ⟨g, o + k * 2 + 1, none⟩ = some (.pointer (some ⟨b, 0, none⟩)) := HE.out.cell' (by rw [hck.2, hb]; simp [Co.pair])
      have HB := Lib.hid (show BigK wr b z by rw [hb, hzz]; exact (HP.out.2 _ (List.getElem_mem hkl)).ext HE.out)
      have HX := Lib.hid (show (l.map Co.val)[k]'(by simpa using hkl) = (s, z) by simp [Co.val, hs, hzz])
      have hzb : Small z := by rw [hzz]; exact HZ.out _ (List.getElem_mem hkl)
      have HZB := Lib.hid hzb
      clear hs hb hzz hck hc hzb
      go_wp2
      go_region_law (first | (refine step_append_lies _ rfl (.tmp 15) (.tmp 22) 71 rfl w.heap.size 106 i0 _ 2 24 Tryz.underlying71 hi hz0 hz1 hz2 rfl (by decide) u3 cs.length (flat2 (cs.map Co.pair)) rfl (owns_ext (HO.out.ext HE1.out).1 (ext1 _ _)) ⟨w1.heap.size, 0, none⟩ 1 1 [.string s, .pointer (some ⟨r, 0, none⟩)] rfl rfl (cell_two_new _ _ _ _) (two_one _ _ rfl rfl) (by decide) (by have := HC.out; unfold maxLen; omega) (by have := HC.out; omega) (by have := HE.out.size; have := HE1.out.size; simp; omega) _ rfl ?_; intro g2 cap w2 hown hgrow _ _; have R := Lib.hid (dcoins_push ((HO.out.ext HE1.out).ext (ext1 _ _)) (HB1.out.ext (ext1 _ _)) ((HE.out.trans' HE1.out).trans' (ext1 _ _)) hown hgrow); clear hown hgrow) | (go_simp; go_at_call 141; refine (dNegDec b z _ (by exact HB.out.ext ((Ext.alloc' _ _).trans' (Ext.drewN' _ 1))) HZB.out).mono ?_; rintro e w1 ⟨r, rfl, hB, hE⟩; have HB1 := Lib.hid hB.k; have HE1 := Lib.hid ((Ext.alloc' wr (dcBox s b)).trans' (Ext.undrew hE)); have kb := (blk_new0 wr 106 [.string s, .pointer (some ⟨b, 0, none⟩)]).ext (Ext.undrew hE); have c0 : w1.cell? ⟨wr.heap.size, 0, none⟩ = some (.string s) := (kb.cell 0).trans rfl; have hl1 := cell_lt c0; clear hB hE kb))
      all_goals go_wp2
      all_goals exact ⟨⟨k + 1, cs ++ [⟨s, r, -z⟩], by omega, by go_num, by simp [HC.out], by rw [List.map_append, HV.out, List.take_succ_eq_append_getElem (by simpa using hkl), dnegs_append, HX.out]; rfl, R.out.1, R.out.2⟩, by simp [intOf]; omega⟩
    · obtain rfl : k = n := by omega
      go_wp2
      go_ret
      exact ⟨_, cs, rfl, by rw [HV.out, List.take_of_length_le (by simp [HL.out])], HO.out, HE.out⟩
theorem DCoinsOwn.low {w : World} {base base' : Nat} {v : Value} {cs : List Co} (h : DCoinsOwn w base v cs) (hb : base' ≤ base) : DCoinsOwn w base' v cs := ⟨row_low h.1 hb, h.2⟩
/-- Handed back with a word. -/
def RetDCoinsB (l : List (ByteArray × Int)) (b : Bool) (w : World) (e : Ending) (w' : World) : Prop :=
  ∃ v cs, e = .returned (.tuple #[v, .bool b]) ∧ cs.map Co.val = l ∧ DCoinsOwn w' w.heap.size v cs ∧ Ext w w'

set_option maxRecDepth 100000 in
set_option maxHeartbeats 1000000 in
theorem tdSafeSub (A B : Option Addr) (n c m d : Nat) (la lb : List Co) (w : World) (hla : la.length = n) (hlb : lb.length = m) (hn : n ≤ 40000) (hm : m ≤ 40000) (hcn : n ≤ c) (hA : DCoinsAt w A la) (hB : DCoinsAt w B lb)
    (hzs : ∀ y ∈ lb, Small y.z) (hz : ∀ x ∈ la, ∀ y ∈ lb, x.s = y.s → Small x.z ∧ Small (-y.z) ∧ InR (x.z + -y.z)) (hT : Thr w) :
    Calls Tryz.prog 67 #[.slice A n c, .slice B m d] w (RetDCoinsB (dmrg (la.map Co.val) (dnegs (lb.map Co.val))) (dAnyNeg (dmrg (la.map Co.val) (dnegs (lb.map Co.val)))) w) := by
  have H1 := Lib.hid (tdNegative B m d lb w hlb (by omega) hB hzs)
  have HLA := Lib.hid hla; have HLB := Lib.hid hlb; have HA := Lib.hid hA; have HZ := Lib.hid hz; have TW := Lib.hid hT
  clear hla hlb hA hB hz hT
  obtain ⟨L, hL⟩ : ∃ L, L = dmrg (la.map Co.val) (dnegs (lb.map Co.val)) := ⟨_, rfl⟩
  have HLEN := Lib.hid (show L.length ≤ n + m by rw [hL, ← HLA.out, ← HLB.out]; have := dmrg_len (la.map Co.val) (dnegs (lb.map Co.val)); rw [dnegs_len] at this; simpa using this)
  rw [← hL]
  have HL := Lib.hid hL; clear hL
  go_enter Tryz.func67, Tryz.ntmps67
  go_wp2_with (fail)
  go_at_call 108
  refine H1.out.mono ?_
  rintro e w1 ⟨v1, cb, rfl, vb, ob, hE1⟩
  obtain ⟨B1, d1, rfl, hd1⟩ := down_cap ob.1
  have lb1 : cb.length = m := by have := congrArg List.length vb; rw [dnegs_len] at this; simpa [HLB.out] using this
  rw [lb1] at hd1 ⊢
  have H2 := Lib.hid (tdSafeAdd A B1 n c m d1 la cb w1 HLA.out lb1 (by omega) (by omega) hcn hd1 (HA.out.ext hE1) (dcoinsAt_own ob rfl) (fun x hx y hy e => by
    have hy' : y.val ∈ dnegs (lb.map Co.val) := by rw [← vb]; exact List.mem_map_of_mem hy
    obtain ⟨p, hp, ep⟩ := List.mem_map.1 hy'
    obtain ⟨q, hq, rfl⟩ := List.mem_map.1 hp
    have e1 : q.s = y.s := congrArg Prod.fst ep
    have e2 : -q.z = y.z := congrArg Prod.snd ep
    rw [← e2]
    exact HZ.out x hx q hq (e.trans e1.symm)) (TW.out.ext hE1))
  rw [vb, ← HL.out] at H2
  have HE1 := Lib.hid hE1
  clear vb ob hE1 hd1 lb1
  go_wp2_with (fail)
  go_at_call 102
  refine H2.out.mono ?_
  rintro e w2 ⟨v2, cs, rfl, vs, os, hE2⟩
  obtain ⟨A2, c2, rfl, hc2⟩ := down_cap os.1
  have hcl : cs.length ≤ 100000 := by have := congrArg List.length vs; have := HLEN.out; rw [List.length_map] at *; omega
  have H3 := Lib.hid (tdAnyNegC A2 cs.length c2 cs w2 rfl hcl (dcoinsAt_own os rfl))
  rw [vs] at H3
  have HE2 := Lib.hid (HE1.out.trans' hE2); have OS := Lib.hid (And.intro vs (And.intro os HE1.out.size))
  clear hE2 vs os hc2 hcl
  go_wp2_with (fail)
  go_at_call 109
  refine H3.out.mono ?_
  rintro e w3 ⟨rfl, hE3⟩
  have HE3 := Lib.hid hE3; clear hE3
  go_wp2
  go_ret2
  exact ⟨_, cs, rfl, OS.out.1, (DCoinsOwn.low OS.out.2.1 OS.out.2.2).ext HE3.out, HE2.out.trans' HE3.out⟩
theorem decB_neg {a b : Int} (h : DecB a b) : DecB (-a) (-b) ∧ decV (-a) (-b) = -decV a b := by
  obtain ⟨⟨h1, h2⟩, h3, h4⟩ := h
  refine ⟨⟨⟨by omega, by omega⟩, by omega, by omega⟩, ?_⟩
  unfold decV T18; omega
/-- What a difference of two plain lists is. -/
def dsub (la lb : List DP) : List (ByteArray × Int) := dmrg (la.map dval) (dnegs (lb.map dval))
theorem dsub_len (la lb : List DP) : (dsub la lb).length ≤ la.length + lb.length := by
  have := dmrg_len (la.map dval) (dnegs (lb.map dval))
  rw [dnegs_len] at this
  simpa [dsub] using this
theorem dsub_cond {la lb : List DP} {ca cb : List Co} (va : ca.map Co.val = la.map dval) (vb : cb.map Co.val = lb.map dval) (hza : ∀ x ∈ la, DecB x.2.1 x.2.2) (hzb : ∀ x ∈ lb, DecB x.2.1 x.2.2) :
    (∀ y ∈ cb, Small y.z) ∧ ∀ x ∈ ca, ∀ y ∈ cb, x.s = y.s → Small x.z ∧ Small (-y.z) ∧ InR (x.z + -y.z) := by
  constructor
  · intro y hy
    have hy' : y.val ∈ lb.map dval := by rw [← vb]; exact List.mem_map_of_mem hy
    obtain ⟨q, hq, eq⟩ := List.mem_map.1 hy'
    have e2 : y.z = decV q.2.1 q.2.2 := (congrArg Prod.snd eq).symm
    rw [e2]; exact (decB_small (hzb q hq)).2.2
  · intro x hx y hy _
    have hx' : x.val ∈ la.map dval := by rw [← va]; exact List.mem_map_of_mem hx
    have hy' : y.val ∈ lb.map dval := by rw [← vb]; exact List.mem_map_of_mem hy
    obtain ⟨p, hp, ep⟩ := List.mem_map.1 hx'
    obtain ⟨q, hq, eq⟩ := List.mem_map.1 hy'
    have e1 : x.z = decV p.2.1 p.2.2 := (congrArg Prod.snd ep).symm
    have e2 : y.z = decV q.2.1 q.2.2 := (congrArg Prod.snd eq).symm
    rw [e1, e2, ← (decB_neg (hzb q hq)).2]
    exact decB_sum (hza p hp) (decB_neg (hzb q hq)).1
/-- The difference handed back, with two words. -/
def RetSafe (L : List (ByteArray × Int)) (w : World) (e : Ending) (w' : World) : Prop :=
  ∃ v, e = .returned (.tuple #[v, .bool (dAnyNeg L), .bool true]) ∧ DPlainOwn w' w.heap.size v (L.map dback) ∧ Ext w w'
theorem DPlainOwn.low {w : World} {base base' : Nat} {v : Value} {l : List DP} (h : DPlainOwn w base v l) (hb : base' ≤ base) : DPlainOwn w base' v l := row_low h hb

set_option maxRecDepth 100000 in
set_option maxHeartbeats 2000000 in
theorem iDecSafe (A B : Option Addr) (n c m d : Nat) (la lb : List DP) (w : World) (hla : la.length = n) (hlb : lb.length = m) (hn : n ≤ 40000) (hm : m ≤ 40000) (hA : DPlainAt w A la) (hB : DPlainAt w B lb)
    (hza : ∀ x ∈ la, DecB x.2.1 x.2.2) (hzb : ∀ x ∈ lb, DecB x.2.1 x.2.2) (hT : Thr w) (hs : ∀ x ∈ dsub la lb, FitT x.2) :
    Calls Tryz.prog 33 #[.slice A n c, .slice B m d] w (RetSafe (dsub la lb) w) := by
  have H1 := Lib.hid (iDecCoins A n c la w hla (by omega) hA hza hT)
  have H2 := Lib.hid (fun (W : World) (e : Ext w W) => iDecCoins B m d lb W hlb (by omega) (hB.ext e) hzb (hT.ext e))
  have H3 := Lib.hid (fun (W : World) (e : Ext w W) (A1 B1 : Option Addr) (c1 d1 : Nat) (ca cb : List Co) (va : ca.map Co.val = la.map dval) (vb : cb.map Co.val = lb.map dval) (h1 : n ≤ c1) (k1 : DCoinsAt W A1 ca) (k2 : DCoinsAt W B1 cb) =>
    show Calls Tryz.prog 67 #[.slice A1 n c1, .slice B1 m d1] W (RetDCoinsB (dsub la lb) (dAnyNeg (dsub la lb)) W) by
      unfold dsub
      rw [← va, ← vb]
      obtain ⟨q1, q2⟩ := dsub_cond va vb hza hzb
      exact tdSafeSub A1 B1 n c1 m d1 ca cb W ((val_len va).trans hla) ((val_len vb).trans hlb) hn hm h1 k1 k2 q1 q2 (hT.ext e))
  have HLEN := Lib.hid (show (dsub la lb).length ≤ n + m by rw [← hla, ← hlb]; exact dsub_len la lb)
  obtain ⟨L, hL⟩ : ∃ L, L = dsub la lb := ⟨_, rfl⟩
  rw [← hL] at H3 HLEN hs
  rw [← hL]
  have HS := Lib.hid hs
  have HLA := Lib.hid hla; have HLB := Lib.hid hlb
  clear hla hlb hA hB hza hzb hT hs hL
  obtain ⟨nb, hnb⟩ : ∃ nb, nb = dAnyNeg L := ⟨_, rfl⟩
  rw [← hnb] at H3
  have HNB := Lib.hid hnb; clear hnb
  go_enter Tryz.func33, Tryz.ntmps33
  go_wp2_with (fail)
  go_at_call 42
  refine H1.out.mono ?_
  rintro e w1 ⟨v1, ca, rfl, va, oa, hE1⟩
  obtain ⟨A1, c1, rfl, hc1⟩ := down_cap oa.1
  have la1 := (val_len va).trans HLA.out
  rw [la1] at hc1 ⊢
  have KA := Lib.hid (show DCoinsAt w1 A1 ca from dcoinsAt_own oa rfl)
  have VA := Lib.hid va; have HE1 := Lib.hid hE1; have HC1 := Lib.hid hc1
  clear va oa hE1 hc1 la1
  go_wp2_with (fail)
  go_at_call 42
  refine (H2.out _ HE1.out).mono ?_
  rintro e w2 ⟨v2, cb, rfl, vb, ob, hE2⟩
  obtain ⟨B1, d1, rfl, hd1⟩ := down_cap ob.1
  have lb1 := (val_len vb).trans HLB.out
  rw [lb1] at hd1 ⊢
  have KB := Lib.hid (show DCoinsAt w2 B1 cb from dcoinsAt_own ob rfl)
  have VB := Lib.hid vb; have HE2 := Lib.hid (HE1.out.trans' hE2); have KA2 := Lib.hid (KA.out.ext hE2)
  clear vb ob hE2 hd1 lb1
  go_wp2_with (fail)
  go_at_call 67
  refine (H3.out _ HE2.out A1 B1 c1 d1 ca cb VA.out VB.out HC1.out KA2.out KB.out).mono ?_
  rintro e w3 ⟨v3, cs, rfl, vs, os, hE3⟩
  obtain ⟨A3, c3, rfl, hc3⟩ := down_cap os.1
  have KS := Lib.hid (show DCoinsAt w3 A3 cs from dcoinsAt_own os rfl)
  have VS := Lib.hid vs; have HE3 := Lib.hid (HE2.out.trans' hE3)
  have HL3 := Lib.hid (show cs.length ≤ 1000000 by
    have h9 := congrArg List.length VS.out
    rw [List.length_map] at h9
    have := HLEN.out; omega)
  have HZ3 := Lib.hid (show ∀ x ∈ cs, FitT x.z by
    intro x hx
    exact HS.out x.val (by rw [← VS.out]; exact List.mem_map_of_mem hx))
  have HBK := Lib.hid (iBackDecs A3 cs.length c3 cs w3 rfl HL3.out KS.out HZ3.out)
  rw [show (cs.map fun x => dback x.val) = L.map dback by rw [← VS.out, List.map_map]; rfl] at HBK
  clear vs os hE3 hc3
  go_wp2_with (fail)
  go_at_call 41
  refine HBK.out.mono ?_
  rintro e w4 ⟨v4, rfl, ho, hE4⟩
  have HO := Lib.hid ho; have HE4 := Lib.hid (HE3.out.trans' hE4)
  clear ho hE4
  go_wp2
  go_ret3
  refine ⟨v4, ?_, HO.out.low HE3.out.size, HE4.out⟩
  rw [← HNB.out]; rfl

set_option maxRecDepth 100000 in
set_option maxHeartbeats 1000000 in
theorem tdSubCoins (A B : Option Addr) (n c m d : Nat) (L : List (ByteArray × Int)) (w : World) (h : dAnyNeg L = false)
    (H : ∀ W, Ext w W → Calls Tryz.prog 67 #[.slice A n c, .slice B m d] W (RetDCoinsB L (dAnyNeg L) W)) :
    Calls Tryz.prog 63 #[.slice A n c, .slice B m d] w (RetDCoins L w) := by
  have H := Lib.hid H
  rw [h] at H
  clear h
  go_enter Tryz.func63, Tryz.ntmps63
  go_wp2_with (go_at_call 67; (refine (H.out _ (Ext.refl _)).mono ?_); rintro e w1 ⟨v1, cs, rfl, h1, h2, h3⟩; have HR := Lib.hid (And.intro h1 (And.intro h2 h3)); clear h1 h2 h3)
  go_ret
  exact ⟨_, cs, rfl, HR.out.1, HR.out.2.1, HR.out.2.2⟩

/-- What DecSub hands back: the difference, or nothing where something is less than nought. -/
def RetSubD (L : List (ByteArray × Int)) (w : World) (e : Ending) (w' : World) : Prop :=
  ∃ v, e = .returned (.tuple #[v, .bool (!dAnyNeg L)]) ∧ (dAnyNeg L = false → DPlainOwn w' w.heap.size v (L.map dback)) ∧ Ext w w'

set_option maxRecDepth 100000 in
set_option maxHeartbeats 2000000 in
theorem iDecSub (A B : Option Addr) (n c m d : Nat) (la lb : List DP) (w : World) (hla : la.length = n) (hlb : lb.length = m) (hn : n ≤ 40000) (hm : m ≤ 40000) (hA : DPlainAt w A la) (hB : DPlainAt w B lb)
    (hza : ∀ x ∈ la, DecB x.2.1 x.2.2) (hzb : ∀ x ∈ lb, DecB x.2.1 x.2.2) (hT : Thr w) (hs : ∀ x ∈ dsub la lb, FitT x.2) :
    Calls Tryz.prog 30 #[.slice A n c, .slice B m d] w (RetSubD (dsub la lb) w) := by
  have H0 := Lib.hid (iDecSafe A B n c m d la lb w hla hlb hn hm hA hB hza hzb hT hs)
  have H1 := Lib.hid (fun (W : World) (e : Ext w W) => iDecCoins A n c la W hla (by omega) (hA.ext e) hza (hT.ext e))
  have H2 := Lib.hid (fun (W : World) (e : Ext w W) => iDecCoins B m d lb W hlb (by omega) (hB.ext e) hzb (hT.ext e))
  have H3 := Lib.hid (fun (hneg : dAnyNeg (dsub la lb) = false) (W : World) (e : Ext w W) (A1 B1 : Option Addr) (c1 d1 : Nat) (ca cb : List Co) (va : ca.map Co.val = la.map dval) (vb : cb.map Co.val = lb.map dval) (h1 : n ≤ c1) (k1 : DCoinsAt W A1 ca) (k2 : DCoinsAt W B1 cb) =>
    show Calls Tryz.prog 63 #[.slice A1 n c1, .slice B1 m d1] W (RetDCoins (dsub la lb) W) from
      tdSubCoins A1 B1 n c1 m d1 _ W hneg (fun V eV => by
        unfold dsub
        rw [← va, ← vb]
        obtain ⟨q1, q2⟩ := dsub_cond va vb hza hzb
        exact tdSafeSub A1 B1 n c1 m d1 ca cb V ((val_len va).trans hla) ((val_len vb).trans hlb) hn hm h1 (k1.ext eV) (k2.ext eV) q1 q2 (hT.ext (e.trans' eV))))
  have HLEN := Lib.hid (show (dsub la lb).length ≤ n + m by rw [← hla, ← hlb]; exact dsub_len la lb)
  obtain ⟨L, hL⟩ : ∃ L, L = dsub la lb := ⟨_, rfl⟩
  rw [← hL] at H0 H3 HLEN hs
  rw [← hL]
  have HS := Lib.hid hs
  have HLA := Lib.hid hla; have HLB := Lib.hid hlb
  clear hla hlb hA hB hza hzb hT hs hL
  obtain ⟨nb, hnb⟩ : ∃ nb, nb = dAnyNeg L := ⟨_, rfl⟩
  unfold RetSafe at H0
  unfold RetSubD
  rw [← hnb] at H0 H3 ⊢
  go_enter Tryz.func30, Tryz.ntmps30
  go_wp2_with (fail)
  go_at_call 33
  refine H0.out.mono ?_
  rintro e w0 ⟨v0, rfl, ho0, hE0⟩
  have HE0 := Lib.hid hE0; clear ho0 hE0 hnb
  cases nb
  · have H3' := Lib.hid (H3.out rfl)
    clear H3
    go_wp2_with (fail)
    go_at_call 42
    refine (H1.out _ HE0.out).mono ?_
    rintro e w1 ⟨v1, ca, rfl, va, oa, hE1⟩
    obtain ⟨A1, c1, rfl, hc1⟩ := down_cap oa.1
    have la1 := (val_len va).trans HLA.out
    rw [la1] at hc1 ⊢
    have KA := Lib.hid (show DCoinsAt w1 A1 ca from dcoinsAt_own oa rfl)
    have VA := Lib.hid va; have HE1 := Lib.hid (HE0.out.trans' hE1); have HC1 := Lib.hid hc1
    clear va oa hE1 hc1 la1
    go_wp2_with (fail)
    go_at_call 42
    refine (H2.out _ HE1.out).mono ?_
    rintro e w2 ⟨v2, cb, rfl, vb, ob, hE2⟩
    obtain ⟨B1, d1, rfl, hd1⟩ := down_cap ob.1
    have lb1 := (val_len vb).trans HLB.out
    rw [lb1] at hd1 ⊢
    have KB := Lib.hid (show DCoinsAt w2 B1 cb from dcoinsAt_own ob rfl)
    have VB := Lib.hid vb; have HE2 := Lib.hid (HE1.out.trans' hE2); have KA2 := Lib.hid (KA.out.ext hE2)
    clear vb ob hE2 hd1 lb1
    go_wp2_with (fail)
    go_at_call 63
    refine (H3'.out _ HE2.out A1 B1 c1 d1 ca cb VA.out VB.out HC1.out KA2.out KB.out).mono ?_
    rintro e w3 ⟨v3, cs, rfl, vs, os, hE3⟩
    obtain ⟨A3, c3, rfl, hc3⟩ := down_cap os.1
    have KS := Lib.hid (show DCoinsAt w3 A3 cs from dcoinsAt_own os rfl)
    have VS := Lib.hid vs; have HE3 := Lib.hid (HE2.out.trans' hE3)
    have HL3 := Lib.hid (show cs.length ≤ 1000000 by
      have h9 := congrArg List.length VS.out
      rw [List.length_map] at h9
      have := HLEN.out; omega)
    have HZ3 := Lib.hid (show ∀ x ∈ cs, FitT x.z by
      intro x hx
      exact HS.out x.val (by rw [← VS.out]; exact List.mem_map_of_mem hx))
    have HBK := Lib.hid (iBackDecs A3 cs.length c3 cs w3 rfl HL3.out KS.out HZ3.out)
    rw [show (cs.map fun x => dback x.val) = L.map dback by rw [← VS.out, List.map_map]; rfl] at HBK
    clear vs os hE3 hc3
    go_wp2_with (fail)
    go_at_call 41
    refine HBK.out.mono ?_
    rintro e w4 ⟨v4, rfl, ho, hE4⟩
    have HO := Lib.hid ho; have HE4 := Lib.hid (HE3.out.trans' hE4)
    clear ho hE4
    go_wp2
    go_ret2
    exact ⟨v4, rfl, by first | exact HO.out.low HE3.out.size | exact fun _ => HO.out.low HE3.out.size, HE4.out⟩
  · go_wp2
    go_ret2
    exact ⟨_, rfl, fun h => absurd h (by decide), HE0.out⟩
end Go.Proofs.YtfocejhcdcnnhaaGreatDoor

namespace Go.Proofs.YtfocejhcdcnnhaaGreatDoor
open Go Go.RowKit

theorem de_zero : de 0 = .agg #[.bool false, .int .u64 0, .int .u64 0, .int .u64 0, .int .u64 0] := by
  show deV (decide ((0 : Int) < 0)) 0 = _
  unfold deV; rw [dw_zero, dw_zero, dw_zero, dw_zero]; rfl
end Go.Proofs.YtfocejhcdcnnhaaGreatDoor
