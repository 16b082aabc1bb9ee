/-
  The contract of impl.Compare of sets.
-/
import Derived.Test.YtagfbefgcijegaaGreatDoorCmp3
import Derived.Test.YtagfbefgcijegaaGreatDoorEqual2
import Derived.Test.YtagfbefgcijegaaGreatDoorGK
namespace Go.Proofs.YtagfbefgcijegaaGreatDoor
open Go Go.RowKit

/-- All amounts of the second list are less, and the first one is not empty. -/
def gtB (a b : List (ByteArray × Int)) : Bool := !a.isEmpty && b.all fun x => decide (x.2 < totalP x.1 a)
def gteB (a b : List (ByteArray × Int)) : Bool := b.all fun x => decide (x.2 ≤ totalP x.1 a)
def anyB (a b : List (ByteArray × Int)) : Bool := !a.all fun x => decide (totalP x.1 b = 0) || decide (x.2 ≤ totalP x.1 b)
def anyEB (a b : List (ByteArray × Int)) : Bool := !a.all fun x => decide (totalP x.1 b = 0) || decide (x.2 < totalP x.1 b)
def subB (a b : List (ByteArray × Int)) : Bool := decide (a.length ≤ b.length) && a.all fun x => decide (totalP x.1 b ≠ 0)
/-- What two sets tell. -/
def RetCompare (a b : List (ByteArray × Int)) (w : World) (e : Ending) (w' : World) : Prop :=
  e = .returned (.tuple #[.agg #[.bool (gtB a b), .bool (gteB a b), .bool (gtB b a), .bool (gteB b a), .bool (anyB a b), .bool (anyEB a b), .bool (subB a b), .bool (decide (a = b))], .bool true]) ∧ Ext w w'
theorem gt_val {l m : List Co} {a b : List (ByteArray × Int)} (h : l.map Co.val = a) (k : m.map Co.val = b) : (!l.isEmpty && m.all fun x => decide (x.z < totC x.s l)) = gtB a b := by
  subst h; subst k; unfold gtB totC; rw [List.all_map, List.isEmpty_map]; rfl
theorem gte_val {l m : List Co} {a b : List (ByteArray × Int)} (h : l.map Co.val = a) (k : m.map Co.val = b) : (m.all fun x => decide (x.z ≤ totC x.s l)) = gteB a b := by
  subst h; subst k; unfold gteB totC; rw [List.all_map]; rfl
theorem any_val {l m : List Co} {a b : List (ByteArray × Int)} (h : l.map Co.val = a) (k : m.map Co.val = b) : (!l.all fun x => decide (totC x.s m = 0) || decide (x.z ≤ totC x.s m)) = anyB a b := by
  subst h; subst k; unfold anyB totC; rw [List.all_map]; rfl
theorem anye_val {l m : List Co} {a b : List (ByteArray × Int)} (h : l.map Co.val = a) (k : m.map Co.val = b) : (!l.all fun x => decide (totC x.s m = 0) || decide (x.z < totC x.s m)) = anyEB a b := by
  subst h; subst k; unfold anyEB totC; rw [List.all_map]; rfl
theorem sub_val {l m : List Co} {a b : List (ByteArray × Int)} {n k : Nat} (h : l.map Co.val = a) (k' : m.map Co.val = b) (hn : a.length = n) (hk : b.length = k) : (decide (n ≤ k) && l.all fun x => decide (totC x.s m ≠ 0)) = subB a b := by
  subst h; subst k'; subst hn; subst hk; unfold subB totC; rw [List.all_map]; rfl

set_option maxRecDepth 100000 in
theorem tIsAllLT (A B : Option Addr) (n c m d : Nat) (la lb : List Co) (w : World) (hA : SetAt w A n c la) (hB : SetAt w B m d lb) (hpos : ∀ x ∈ la, 0 < x.z) :
    Calls Tryz.prog 115 #[.slice A n c, .slice B m d] w (RetE (.bool (!lb.isEmpty && la.all fun x => decide (x.z < totC x.s lb))) w) := by
  have H := Lib.hid (tIsAllGT B A m d n c lb la w hB hA hpos)
  obtain ⟨r, hr⟩ : ∃ r, r = (!lb.isEmpty && la.all fun x => decide (x.z < totC x.s lb)) := ⟨_, rfl⟩
  rw [← hr] at H ⊢
  clear hA hB hpos hr
  go_enter Tryz.func115, Tryz.ntmps115
  go_wp2_with (fail)
  go_at_call 113
  refine H.out.mono ?_
  rintro e w1 ⟨rfl, hE⟩
  have HE := Lib.hid hE; clear hE
  go_wp2
  go_ret
  exact ⟨rfl, HE.out⟩
set_option maxRecDepth 100000 in
theorem tIsAllLTE (A B : Option Addr) (n c m d : Nat) (la lb : List Co) (w : World) (hA : SetAt w A n c la) (hB : SetAt w B m d lb) (hpos : ∀ x ∈ la, 0 < x.z) :
    Calls Tryz.prog 116 #[.slice A n c, .slice B m d] w (RetE (.bool (la.all fun x => decide (x.z ≤ totC x.s lb))) w) := by
  have H := Lib.hid (tIsAllGTE B A m d n c lb la w hB hA hpos)
  obtain ⟨r, hr⟩ : ∃ r, r = (la.all fun x => decide (x.z ≤ totC x.s lb)) := ⟨_, rfl⟩
  rw [← hr] at H ⊢
  clear hA hB hpos hr
  go_enter Tryz.func116, Tryz.ntmps116
  go_wp2_with (fail)
  go_at_call 114
  refine H.out.mono ?_
  rintro e w1 ⟨rfl, hE⟩
  have HE := Lib.hid hE; clear hE
  go_wp2
  go_ret
  exact ⟨rfl, HE.out⟩
set_option maxRecDepth 100000 in
set_option maxHeartbeats 4000000 in
theorem iCompare (A B : Option Addr) (n c m d : Nat) (l l' : List (ByteArray × Int)) (w : World) (hl : l.length = n) (hl' : l'.length = m) (hn : n ≤ 20) (hm : m ≤ 20) (hA : PlainAt w A l) (hB : PlainAt w B l')
    (hz : ∀ x ∈ l ++ l', x.2.natAbs ≤ 1125899906842624) (hsz : ∀ x ∈ l ++ l', x.1.size ≤ maxLen) (hb : isB l = true) (hb' : isB l' = true) :
    Calls Tryz.prog 67 #[.slice A n c, .slice B m d] w (RetCompare l l' w) := by
  have hz1 : ∀ x ∈ l ++ l', -maxI ≤ x.2 ∧ x.2 ≤ maxI := fun x hx => by have := hz x hx; unfold maxI; omega
  have K0 := Lib.hid (blk_new0 w 65 [.bool false, .bool false, .bool false, .bool false, .bool false, .bool false, .bool false, .bool false])
  have H1 := Lib.hid (fun (W : World) (e : Ext w W) => iValid A B n c m d l l' W hl hl' hn hm (hA.ext e) (hB.ext e) hz1 hsz hb hb')
  have HCA := Lib.hid (fun (W : World) (e : Ext w W) => iCoins A n c l W hl (by omega) (hA.ext e) (fun x hx => hz1 x (List.mem_append_left _ hx)))
  have HCB := Lib.hid (fun (W : World) (e : Ext w W) => iCoins B m d l' W hl' (by omega) (hB.ext e) (fun x hx => hz1 x (List.mem_append_right _ hx)))
  have HL := Lib.hid hl; have HL' := Lib.hid hl'; have HN := Lib.hid (And.intro hn hm); have HZ := Lib.hid hz; have HB := Lib.hid (And.intro hb hb')
  clear hl hl' hn hm hA hB hz hz1 hsz hb hb'
  go_enter Tryz.func67, Tryz.ntmps67
  go_wp2_with (fail)
  go_at_call 108
  refine (H1.out _ (Ext.alloc' _ _)).mono ?_
  rintro e w0 ⟨rfl, hE⟩
  have HX0 := Lib.hid hE
  have HE0 := Lib.hid ((Ext.alloc' _ _).trans' hE); clear hE
  go_wp2_with (fail)
  go_at_call 72
  refine (HCA.out _ HE0.out).mono ?_
  rintro e w1 ⟨v, cs, rfl, hv, hown, hE⟩
  obtain ⟨A1, c1, rfl, hc1, hc2⟩ := own_cap2 hown.1
  have HX01 := Lib.hid hE; have HO1 := Lib.hid hown; have HV := Lib.hid hv; have HE1 := Lib.hid (HE0.out.trans' hE); have HX1 := Lib.hid (HX0.out.trans' hE); have HNc := Lib.hid (show cs.length = n by rw [← HL.out, ← hv]; simp); have HC := Lib.hid (And.intro hc1 hc2)
  clear hown hv hE hc1 hc2
  go_wp2_with (fail)
  go_at_call 72
  refine (HCB.out _ HE1.out).mono ?_
  rintro e w2 ⟨v, ds, rfl, hv, hown, hE⟩
  obtain ⟨A2, c2, rfl, hc1, hc2⟩ := own_cap2 hown.1
  have HO2 := Lib.hid hown; have HV2 := Lib.hid hv; have HE2 := Lib.hid (HE1.out.trans' hE); have HX2 := Lib.hid (HX1.out.trans' hE); have HNd := Lib.hid (show ds.length = m by rw [← HL'.out, ← hv]; simp); have HC2 := Lib.hid (And.intro hc1 hc2)
  have HO12 := Lib.hid (HO1.out.ext hE); have HX12 := Lib.hid hE
  clear hown hv hE hc1 hc2
  have HSA := Lib.hid (show SetAt w2 A1 cs.length c1 cs from ⟨rfl, by have := HNc.out; have := HN.out; omega, HC.out.1, HC.out.2, (own_at HO12.out).1, by rw [HV.out]; exact isB_strict HB.out.1, fun x hx => HZ.out _ (List.mem_append_left _ (mem_co HV.out hx))⟩)
  have HSB := Lib.hid (show SetAt w2 A2 ds.length c2 ds from ⟨rfl, by have := HNd.out; have := HN.out; omega, HC2.out.1, HC2.out.2, (own_at HO2.out).1, by rw [HV2.out]; exact isB_strict HB.out.2, fun x hx => HZ.out _ (List.mem_append_right _ (mem_co HV2.out hx))⟩)
  have HPA := Lib.hid (show ∀ x ∈ cs, 0 < x.z from fun x hx => (isB_parts (by rw [HV.out]; exact HB.out.1) x hx).2)
  have HPB := Lib.hid (show ∀ x ∈ ds, 0 < x.z from fun x hx => (isB_parts (by rw [HV2.out]; exact HB.out.2) x hx).2)
  have HE2' := Lib.hid (Ext.refl w2)
  go_wp2_with (fail)
  go_at_call 113
  refine (tIsAllGT A1 A2 cs.length c1 ds.length c2 cs ds _ (HSA.out.ext HE2'.out) (HSB.out.ext HE2'.out) HPB.out).mono ?_
  rintro e w3 ⟨rfl, hE⟩
  have HY0 := Lib.hid (HE2'.out.trans' hE); clear hE
  rw [gt_val HV.out HV2.out]
  obtain ⟨b0, hb0⟩ : ∃ b, b = gtB l l' := ⟨_, rfl⟩
  rw [← hb0]
  have HB0 := Lib.hid hb0; clear hb0
  go_wp2_with (fail)
  go_at_call 114
  refine (tIsAllGTE A1 A2 cs.length c1 ds.length c2 cs ds _ (HSA.out.ext HY0.out) (HSB.out.ext HY0.out) HPB.out).mono ?_
  rintro e w4 ⟨rfl, hE⟩
  have HY1 := Lib.hid (HY0.out.trans' hE); clear hE
  rw [gte_val HV.out HV2.out]
  obtain ⟨b1, hb1⟩ : ∃ b, b = gteB l l' := ⟨_, rfl⟩
  rw [← hb1]
  have HB1 := Lib.hid hb1; clear hb1
  go_wp2_with (fail)
  go_at_call 115
  refine (tIsAllLT A1 A2 cs.length c1 ds.length c2 cs ds _ (HSA.out.ext HY1.out) (HSB.out.ext HY1.out) HPA.out).mono ?_
  rintro e w5 ⟨rfl, hE⟩
  have HY2 := Lib.hid (HY1.out.trans' hE); clear hE
  rw [gt_val HV2.out HV.out]
  obtain ⟨b2, hb2⟩ : ∃ b, b = gtB l' l := ⟨_, rfl⟩
  rw [← hb2]
  have HB2 := Lib.hid hb2; clear hb2
  go_wp2_with (fail)
  go_at_call 116
  refine (tIsAllLTE A1 A2 cs.length c1 ds.length c2 cs ds _ (HSA.out.ext HY2.out) (HSB.out.ext HY2.out) HPA.out).mono ?_
  rintro e w6 ⟨rfl, hE⟩
  have HY3 := Lib.hid (HY2.out.trans' hE); clear hE
  rw [gte_val HV2.out HV.out]
  obtain ⟨b3, hb3⟩ : ∃ b, b = gteB l' l := ⟨_, rfl⟩
  rw [← hb3]
  have HB3 := Lib.hid hb3; clear hb3
  go_wp2_with (fail)
  go_at_call 117
  refine (tIsAnyGT A1 A2 cs.length c1 ds.length c2 cs ds _ (HSA.out.ext HY3.out) (HSB.out.ext HY3.out)).mono ?_
  rintro e w7 ⟨rfl, hE⟩
  have HY4 := Lib.hid (HY3.out.trans' hE); clear hE
  rw [any_val HV.out HV2.out]
  obtain ⟨b4, hb4⟩ : ∃ b, b = anyB l l' := ⟨_, rfl⟩
  rw [← hb4]
  have HB4 := Lib.hid hb4; clear hb4
  go_wp2_with (fail)
  go_at_call 118
  refine (tIsAnyGTE A1 A2 cs.length c1 ds.length c2 cs ds _ (HSA.out.ext HY4.out) (HSB.out.ext HY4.out)).mono ?_
  rintro e w8 ⟨rfl, hE⟩
  have HY5 := Lib.hid (HY4.out.trans' hE); clear hE
  rw [anye_val HV.out HV2.out]
  obtain ⟨b5, hb5⟩ : ∃ b, b = anyEB l l' := ⟨_, rfl⟩
  rw [← hb5]
  have HB5 := Lib.hid hb5; clear hb5
  go_wp2_with (fail)
  go_at_call 119
  refine (tDenomsSubsetOf A1 A2 cs.length c1 ds.length c2 cs ds _ (HSA.out.ext HY5.out) (HSB.out.ext HY5.out)).mono ?_
  rintro e w9 ⟨rfl, hE⟩
  have HY6 := Lib.hid (HY5.out.trans' hE); clear hE
  rw [sub_val HV.out HV2.out (HL.out.trans HNc.out.symm) (HL'.out.trans HNd.out.symm)]
  obtain ⟨b6, hb6⟩ : ∃ b, b = subB l l' := ⟨_, rfl⟩
  rw [← hb6]
  have HB6 := Lib.hid hb6; clear hb6
  go_wp2_with (fail)
  go_at_call 77
  refine (tEqualSet (HO12.out.ext HY6.out) (HO2.out.ext HY6.out) (fun g hg e => by have := (own_block HO1.out g hg).2; have := (own_block HO2.out g e).1; omega) (by have := HNc.out; have := HN.out; omega) (by have := HNd.out; have := HN.out; omega) (by rw [HV.out]; exact HB.out.1) (by rw [HV2.out]; exact HB.out.2) (both2 (fun x hx => by have := HSA.out.abs x hx; unfold B64; omega) (fun x hx => by have := HSB.out.abs x hx; unfold B64; omega))).mono ?_
  rintro e w10 ⟨rfl, hE⟩
  have HXE := Lib.hid (hE _ (((HX1.out).trans' HX12.out).trans' HY6.out) HX0.out.size (Nat.le_trans HX0.out.size HX01.out.size))
  clear hE
  rw [HV.out, HV2.out]
  obtain ⟨b7, hb7⟩ : ∃ b, b = decide (l = l') := ⟨_, rfl⟩
  rw [← hb7]
  have HB7 := Lib.hid hb7; clear hb7
  have kk := K0.out.ext HXE.out
  have d0 : w10.cell? ⟨w.heap.size, 0, none⟩ = some (.bool false) := (kk.cell 0).trans rfl
  have f0 := kk.frozen 0
  have d1 : w10.cell? ⟨w.heap.size, 1, none⟩ = some (.bool false) := (kk.cell 1).trans rfl
  have f1 := kk.frozen 1
  have d2 : w10.cell? ⟨w.heap.size, 2, none⟩ = some (.bool false) := (kk.cell 2).trans rfl
  have f2 := kk.frozen 2
  have d3 : w10.cell? ⟨w.heap.size, 3, none⟩ = some (.bool false) := (kk.cell 3).trans rfl
  have f3 := kk.frozen 3
  have d4 : w10.cell? ⟨w.heap.size, 4, none⟩ = some (.bool false) := (kk.cell 4).trans rfl
  have f4 := kk.frozen 4
  have d5 : w10.cell? ⟨w.heap.size, 5, none⟩ = some (.bool false) := (kk.cell 5).trans rfl
  have f5 := kk.frozen 5
  have d6 : w10.cell? ⟨w.heap.size, 6, none⟩ = some (.bool false) := (kk.cell 6).trans rfl
  have f6 := kk.frozen 6
  have d7 : w10.cell? ⟨w.heap.size, 7, none⟩ = some (.bool false) := (kk.cell 7).trans rfl
  have f7 := kk.frozen 7
  have hlt := kk.lt
  clear kk
  go_wp2
  exact bodyPost_ret (v := .tuple #[.agg #[.bool b0, .bool b1, .bool b2, .bool b3, .bool b4, .bool b5, .bool b6, .bool b7], .bool true]) (by simp [results, Tryz.results67, go_sem, d0, d1, d2, d3, d4, d5, d6, d7]) rfl ⟨by rw [HB0.out, HB1.out, HB2.out, HB3.out, HB4.out, HB5.out, HB6.out, HB7.out], Only.ext ((Ext.alloc' _ _).trans' HXE.out) (((((((((Only.refl _ _).set_ 0 _).set_ 1 _).set_ 2 _).set_ 3 _).set_ 4 _).set_ 5 _).set_ 6 _).set_ 7 _) (Nat.le_refl _)⟩
end Go.Proofs.YtagfbefgcijegaaGreatDoor
