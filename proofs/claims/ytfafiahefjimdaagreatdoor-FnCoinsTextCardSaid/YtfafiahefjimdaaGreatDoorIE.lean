/-
  The contracts of strings.Builder, off the shelf.
  Coins as a text: types.Coins.String, impl.TextOf.
-/
import Derived.Test.YtfafiahefjimdaaGreatDoorChecked
import Derived.Test.YtfafiahefjimdaaGreatDoorGA
import Derived.Shelf.Strings.BuilderK
import Derived.Test.YtfafiahefjimdaaGreatDoorIC
import Derived.Test.YtfafiahefjimdaaGreatDoorGY
import Derived.Test.YtfafiahefjimdaaGreatDoorApp
namespace Go.Proofs.YtfafiahefjimdaaGreatDoor
open Go Go.RowKit Go.Shelf

def renB : Ren where
  f := fun n => if n = 166 then 164 else if n = 167 then 165 else if n = 169 then 166 else if n = 240 then 206 else 253
  t := fun n => if n = 0 then 0 else if n = 3 then 3 else if n = 4 then 4 else if n = 5 then 5 else if n = 9 then 9 else if n = 20 then 20 else if n = 37 then 148 else if n = 70 then 208 else if n = 72 then 210 else if n = 75 then 139 else if n = 80 then 70 else if n = 127 then 247 else 276
  g := fun n => n
theorem laysB166 : Lays.n166 Tryz.prog renB where
  mixed := by kernel_rfl
  f166 := by kernel_rfl
  f240 := by kernel_rfl
  f276 := by kernel_rfl
  t0 := by kernel_rfl
  a0 := by intro w; kernel_rfl
  z0 := by intro w; kernel_rfl
  v0 := by intro w; kernel_rfl
  t3 := by kernel_rfl
  a3 := by intro w; kernel_rfl
  z3 := by intro w; kernel_rfl
  v3 := by intro w; kernel_rfl
  t4 := by kernel_rfl
  a4 := by intro w; kernel_rfl
  z4 := by intro w; kernel_rfl
  v4 := by intro w; kernel_rfl
  t9 := by kernel_rfl
  a9 := by intro w; kernel_rfl
  z9 := by intro w; kernel_rfl
  v9 := by intro w; kernel_rfl
  t20 := by kernel_rfl
  a20 := by intro w; kernel_rfl
  z20 := by intro w; kernel_rfl
  v20 := by intro w; kernel_rfl
  t37 := by kernel_rfl
  a37 := by intro w; kernel_rfl
  z37 := by intro w; kernel_rfl
  v37 := by intro w; kernel_rfl
  t70 := by kernel_rfl
  a70 := by intro w; kernel_rfl
  z70 := by intro w; kernel_rfl
  v70 := by intro w; kernel_rfl
  t72 := by kernel_rfl
  a72 := by intro w; kernel_rfl
  z72 := by intro w; kernel_rfl
  v72 := by intro w; kernel_rfl
  t75 := by kernel_rfl
  a75 := by intro w; kernel_rfl
  z75 := by intro w; kernel_rfl
  v75 := by intro w; kernel_rfl
  t164 := by kernel_rfl
  a164 := by intro w; kernel_rfl
  z164 := by intro w; kernel_rfl
  v164 := by intro w; kernel_rfl
theorem laysB167 : Lays.n167 Tryz.prog renB where
  mixed := by kernel_rfl
  f167 := by kernel_rfl
  f240 := by kernel_rfl
  f276 := by kernel_rfl
  t0 := by kernel_rfl
  a0 := by intro w; kernel_rfl
  z0 := by intro w; kernel_rfl
  v0 := by intro w; kernel_rfl
  t4 := by kernel_rfl
  a4 := by intro w; kernel_rfl
  z4 := by intro w; kernel_rfl
  v4 := by intro w; kernel_rfl
  t5 := by kernel_rfl
  a5 := by intro w; kernel_rfl
  z5 := by intro w; kernel_rfl
  v5 := by intro w; kernel_rfl
  t9 := by kernel_rfl
  a9 := by intro w; kernel_rfl
  z9 := by intro w; kernel_rfl
  v9 := by intro w; kernel_rfl
  t20 := by kernel_rfl
  a20 := by intro w; kernel_rfl
  z20 := by intro w; kernel_rfl
  v20 := by intro w; kernel_rfl
  t37 := by kernel_rfl
  a37 := by intro w; kernel_rfl
  z37 := by intro w; kernel_rfl
  v37 := by intro w; kernel_rfl
  t70 := by kernel_rfl
  a70 := by intro w; kernel_rfl
  z70 := by intro w; kernel_rfl
  v70 := by intro w; kernel_rfl
  t72 := by kernel_rfl
  a72 := by intro w; kernel_rfl
  z72 := by intro w; kernel_rfl
  v72 := by intro w; kernel_rfl
  t75 := by kernel_rfl
  a75 := by intro w; kernel_rfl
  z75 := by intro w; kernel_rfl
  v75 := by intro w; kernel_rfl
  t164 := by kernel_rfl
  a164 := by intro w; kernel_rfl
  z164 := by intro w; kernel_rfl
  v164 := by intro w; kernel_rfl
theorem laysB169 : Lays.n169 Tryz.prog renB where
  mixed := by kernel_rfl
  f169 := by kernel_rfl
  t0 := by kernel_rfl
  a0 := by intro w; kernel_rfl
  z0 := by intro w; kernel_rfl
  v0 := by intro w; kernel_rfl
  t3 := by kernel_rfl
  a3 := by intro w; kernel_rfl
  z3 := by intro w; kernel_rfl
  v3 := by intro w; kernel_rfl
  t9 := by kernel_rfl
  a9 := by intro w; kernel_rfl
  z9 := by intro w; kernel_rfl
  v9 := by intro w; kernel_rfl
  t37 := by kernel_rfl
  a37 := by intro w; kernel_rfl
  z37 := by intro w; kernel_rfl
  v37 := by intro w; kernel_rfl
  t70 := by kernel_rfl
  a70 := by intro w; kernel_rfl
  z70 := by intro w; kernel_rfl
  v70 := by intro w; kernel_rfl
  t72 := by kernel_rfl
  a72 := by intro w; kernel_rfl
  z72 := by intro w; kernel_rfl
  v72 := by intro w; kernel_rfl
  t127 := by kernel_rfl
  a127 := by intro w; kernel_rfl
  z127 := by intro w; kernel_rfl
  v127 := by intro w; kernel_rfl
theorem extraB : Builder.Extra Tryz.prog renB where
  sizeBuilder := by kernel_rfl
  liesBuilder := by kernel_rfl
  t5 := by kernel_rfl
  a5 := by intro w; kernel_rfl
  z5 := by intro w; kernel_rfl
  v5 := by intro w; kernel_rfl
  infoByte := by kernel_rfl
  cellsByte := by kernel_rfl
  sizeByte := by kernel_rfl
  neB5 := by decide +kernel

/-- A builder that was made behind B, with the bytes l. -/
def BldAt (B b : Nat) (l : List UInt8) (w : World) : Prop := Lib.IsBuilderF 210 5 B b (Lib.byteCells l) w
/-- What a writing method leaves. -/
def RetBld (B b : Nat) (l : List UInt8) (v : Value) (w : World) (e : Ending) (w' : World) : Prop := e = .returned v ∧ BldAt B b l w' ∧ Below B w w'
theorem bldStr (B b : Nat) (l : List UInt8) (s : ByteArray) (w : World) (h : BldAt B b l w) (hlen : l.length + s.size ≤ 140737488355328) (hBw : B ≤ w.heap.size) :
    Calls Tryz.prog 164 #[.pointer (some ⟨b, 0, none⟩), .string s] w (RetBld B b (l ++ s.data.toList) (.tuple #[.int .i64 s.size, .nilIface]) w) := by
  refine (Any.Builder_WriteString_k laysB166 extraB B b (Lib.byteCells l) s w h (by simpa [Lib.byteCells] using hlen) hBw).mono ?_
  rintro e w' ⟨rfl, hb, hB, _⟩
  refine ⟨rfl, Or.inr ?_, hB⟩
  have e : Lib.byteCells (l ++ s.data.toList) = Lib.byteCells l ++ Lib.strCells s := by unfold Lib.byteCells Lib.strCells; rw [List.map_append]
  rw [e]; exact hb
theorem bldByte (B b : Nat) (l : List UInt8) (c : UInt8) (w : World) (h : BldAt B b l w) (hlen : l.length + 1 ≤ 140737488355328) (hBw : B ≤ w.heap.size) :
    Calls Tryz.prog 165 #[.pointer (some ⟨b, 0, none⟩), .int .u8 (c.toNat : Int)] w (RetBld B b (l ++ [c]) .nilIface w) := by
  refine (Any.Builder_WriteByte_k laysB167 extraB B b (Lib.byteCells l) (c.toNat : Int) w h (by simpa [Lib.byteCells] using hlen) hBw).mono ?_
  rintro e w' ⟨rfl, hb, hB, _⟩
  refine ⟨rfl, Or.inr ?_, hB⟩
  have e : Lib.byteCells (l ++ [c]) = Lib.byteCells l ++ [.int .u8 (c.toNat : Int)] := by unfold Lib.byteCells; rw [List.map_append]; rfl
  rw [e]; exact hb
theorem bldText (B b : Nat) (l : List UInt8) (w : World) (h : BldAt B b l w) (hBw : B ≤ w.heap.size) :
    Calls Tryz.prog 166 #[.pointer (some ⟨b, 0, none⟩)] w fun e w' => e = .returned (.string ⟨l.toArray⟩) ∧ Below B w w' := by
  refine (Any.Builder_String_any_k laysB169 extraB B b l w h hBw).mono ?_
  rintro e w' ⟨rfl, _, hB, _⟩
  exact ⟨rfl, hB⟩
theorem bldNew (w : World) : BldAt w.heap.size w.heap.size [] (w.alloc (.cells #[.pointer none, .slice none 0 0] 210)) :=
  Or.inl ⟨Nat.le_refl _, .slice none 0 0, heap_alloc_new w _, World.ownsRowF_nil _ _ _ _, by simp [Value.ownBlock]⟩
theorem BldAt.ext {B b : Nat} {l : List UInt8} {w w' : World} (h : BldAt B b l w) (e : Ext w w') : BldAt B b l w' := by
  have key : ∀ p, Lib.BuilderAtF 210 5 B b p (Lib.byteCells l) w → Lib.BuilderAtF 210 5 B b p (Lib.byteCells l) w' := by
    rintro p ⟨h1, v, h2, h3, h4⟩
    refine ⟨h1, v, (e.block b (Array.getElem?_eq_some_iff.1 h2).1).trans h2, h3.kept (row := none) ⟨e.os, e.tape, e.output, e.size, fun i hi _ => e.block i hi⟩ ?_, h4⟩
    by_cases hv : v.ownBlock = none
    · exact Or.inl hv
    · exact Or.inr hv
  rcases h with h | h
  · exact Or.inl (key _ h)
  · exact Or.inr (key _ h)
end Go.Proofs.YtfafiahefjimdaaGreatDoor

namespace Go.Proofs.YtfafiahefjimdaaGreatDoor
open Go Go.RowKit

theorem sumK_succ {l : List (ByteArray × Int)} {k : Nat} (h : k < l.length) : sumK l (k + 1) = (if k = 0 then [] else sumK l k ++ [44]) ++ coinL l[k] := by
  have e : l.getD k (ByteArray.empty, 0) = l[k] := by simp [List.getD, List.getElem?_eq_getElem h]
  rw [sumK, e]
  by_cases h0 : k = 0
  · subst h0; rfl
  · rw [if_neg h0, if_neg h0]
theorem sumV_succ {l : List Co} {k : Nat} (h : k < l.length) : sumK (l.map Co.val) (k + 1) = (if k = 0 then [] else sumK (l.map Co.val) k ++ [44]) ++ coinL l[k].val := by
  rw [sumK_succ (by rw [List.length_map]; exact h), List.getElem_map]
theorem strB_list (l : List UInt8) : (strB l).data.toList = l := by simp [strB]

set_option maxRecDepth 100000 in
set_option maxHeartbeats 1000000 in
theorem tStringC (A : Option Addr) (n c : Nat) (l : List Co) (w : World) (hl : l.length = n) (hn : n ≤ 1000) (hc : n ≤ c) (h : CoinsAt w A l) (hb : ∀ x ∈ l.map Co.val, x.1.size ≤ 200 ∧ -1099511627776 ≤ x.2 ∧ x.2 ≤ 1099511627776) (hL : Leaf w) :
    Calls Tryz.prog 112 #[.slice A n c] w (RetE (.string (strB (sumK (l.map Co.val) n))) w) := by
  have HL := Lib.hid hl; have HP := Lib.hid h; have HB := Lib.hid hb; have HF := Lib.hid hL
  have HLV := Lib.hid (show (l.map Co.val).length = n by rw [List.length_map]; exact hl)
  have HT := Lib.hid (fun (W : World) (e : Ext w W) (k : Nat) (hk : k < l.length) => show Calls Tryz.prog 101 #[coinV l[k].s l[k].b] W (RetE (.string (strB (coinL l[k].val))) W) by
    have hm := hb _ (List.mem_map.2 ⟨l[k], List.getElem_mem hk, rfl⟩)
    have := tString l[k].s l[k].b l[k].z W ((h.2 _ (List.getElem_mem hk)).ext e) (by simp only [Co.val] at hm; unfold B64; omega) (hL.ext e) (by simp only [Co.val] at hm; omega)
    rw [show strB (decZ l[k].z) ++ l[k].s = strB (coinL l[k].val) by rw [← coin_strB]; rfl] at this
    exact this)
  clear hl h hb hL
  rcases (by omega : n = 0 ∨ n = 1 ∨ 2 ≤ n) with h0 | h1 | h2
  · subst h0
    go_enter Tryz.func112, Tryz.ntmps112
    go_wp2
    go_ret
    exact ⟨rfl, Ext.refl _⟩
  · subst h1
    obtain ⟨g, o, hA, hcl⟩ := HP.out.1 (by intro e; have := congrArg List.length e; simp at this; have := HL.out; simp_all)
    subst hA
    have hkl : 0 < l.length := by rw [HL.out]; omega
    have hck := hcl 0 (by simpa using hkl)
    have cs0 : w.cell? ⟨g, o, none⟩ = some (.string l[0].s) := by have := hck.1; simpa [Co.pair] using this
    have cs1 : w.cell? ⟨g, o + 1, none⟩ = some (.pointer (some ⟨l[0].b, 0, none⟩)) := by have := hck.2; simpa [Co.pair] using this
    have HT0 := Lib.hid (HT.out w (Ext.refl _) 0 hkl)
    have HR := Lib.hid (show strB (coinL l[0].val) = strB (sumK (l.map Co.val) 1) by rw [sumV_succ hkl]; rfl)
    rw [← HR.out]
    obtain ⟨s, hs⟩ : ∃ s, s = l[0].s := ⟨_, rfl⟩
    obtain ⟨b, hbb⟩ : ∃ b, b = l[0].b := ⟨_, rfl⟩
    rw [← hs, ← hbb] at HT0
    rw [← hs] at cs0
    rw [← hbb] at cs1
    clear hck hcl hs hbb
    go_enter Tryz.func112, Tryz.ntmps112
    go_wp2_with (go_at_call 101; (with_reducible refine HT0.out.mono ?_); rintro e w1 ⟨rfl, hE⟩; have HE := Lib.hid hE; clear hE)
    go_ret
    exact ⟨rfl, HE.out⟩
  · obtain ⟨m, hm⟩ : ∃ m, n = m + 1 := ⟨n - 1, by omega⟩
    have HM := Lib.hid hm
    have d0 : ((n : Int) == 0) = false := by simp; omega
    have d1 : ((n : Int) == 1) = false := by simp; omega
    have e1 : (n : Int) - 1 = (m : Int) := by omega
    have i1 : (1 : Int) ≤ (n : Int) := by omega
    have i2 : (n : Int) ≤ 1000 := by omega
    have i3 : (m : Int) ≤ (c : Int) := by omega
    have i4 : (m : Int) < (n : Int) := by omega
    clear hm
    go_enter Tryz.func112, Tryz.ntmps112
    go_wp2_with (fail)
    obtain ⟨W0, hW0⟩ : ∃ W0, W0 = w.alloc (.cells #[.pointer none, .slice none 0 0] 210) := ⟨_, rfl⟩
    rw [← hW0]
    have HB0 := Lib.hid (show BldAt w.heap.size w.heap.size [] W0 by rw [hW0]; exact bldNew w)
    have HE0 := Lib.hid (show Ext w W0 by rw [hW0]; exact ext1 _ _)
    clear hW0
    have HLEN := Lib.hid (show ∀ k, k ≤ l.length → (sumK (l.map Co.val) k).length ≤ 242 * k from fun k hk => sumK_len HB.out k (by rw [List.length_map]; exact hk))
    go_loopw [22] (fun i wr => ∃ k : Nat, k ≤ m ∧ i = .int .i64 k ∧ BldAt w.heap.size w.heap.size (if k = 0 then [] else sumK (l.map Co.val) k ++ [44]) wr ∧ Ext w wr) (fun i _ => m - (intOf i).toNat)
    case atStart => exact ⟨0, Nat.zero_le _, rfl, HB0.out, HE0.out⟩
    case round =>
      obtain ⟨k, hk, rfl, hbk, hE⟩ := hrel
      have HBK := Lib.hid hbk; have HE := Lib.hid hE
      clear hbk hE
      have hkl : k < l.length := by rw [HL.out, HM.out]; omega
      obtain ⟨g, o, hA, hcl⟩ := HP.out.1 (by intro e; have := congrArg List.length e; simp at this; rw [this] at hkl; simp at hkl)
      subst hA
      have HTK := Lib.hid (fun (W : World) (e : Ext w W) => HT.out W e k hkl)
      have hck := hcl k (by simpa using hkl)
      have cs0 : wr.cell? ⟨g, o + k * 2, none⟩ = some (.string l[k].s) := HE.out.cell' (by rw [hck.1]; simp [Co.pair])
      have cs1 : wr.cell? ⟨g, o + k * 2 + 1, none⟩ = some (.pointer (some ⟨l[k].b, 0, none⟩)) := HE.out.cell' (by rw [hck.2]; simp [Co.pair])
      have HSK := Lib.hid (sumV_succ hkl)
      have hlk := HLEN.out (k + 1) hkl
      have hcm2 := HB.out _ (List.mem_map.2 ⟨l[k], List.getElem_mem hkl, rfl⟩)
      have HCL := Lib.hid (coinL_len hcm2.1 hcm2.2.1 hcm2.2.2)
      have HLK := Lib.hid (show (if k = 0 then [] else sumK (l.map Co.val) k ++ [44]).length ≤ 242 * k + 1 by
        split
        · simp
        · have := HLEN.out k (by omega)
          rw [List.length_append]; simp; omega)
      obtain ⟨pk, hpk⟩ : ∃ pk, pk = (if k = 0 then [] else sumK (l.map Co.val) k ++ [44]) := ⟨_, rfl⟩
      obtain ⟨ck, hck2⟩ : ∃ ck, ck = coinL l[k].val := ⟨_, rfl⟩
      rw [← hpk] at HBK HSK HLK
      rw [← hck2] at HSK HCL HTK
      obtain ⟨s, hs⟩ : ∃ s, s = l[k].s := ⟨_, rfl⟩
      obtain ⟨b, hbb⟩ : ∃ b, b = l[k].b := ⟨_, rfl⟩
      rw [← hs] at cs0 HTK
      rw [← hbb] at cs1 HTK
      have HKK := Lib.hid hk
      have HSZ := Lib.hid (show w.heap.size ≤ wr.heap.size from HE.out.size)
      have HWS := Lib.hid (fun (W : World) (h : BldAt w.heap.size w.heap.size pk W) (hs : w.heap.size ≤ W.heap.size) => bldStr w.heap.size w.heap.size pk (strB ck) W h (by rw [strB_size]; have := HLK.out; have := HCL.out; omega) hs)
      rw [strB_list] at HWS
      clear hck hcl hpk hck2 hs hbb hlk hcm2 hkl
      by_cases hlt : k < m
      · have j1 : (k : Int) < (m : Int) := by omega
        have j2 : (k : Int) < (n : Int) := by omega
        have HWB := Lib.hid (fun (W : World) (h : BldAt w.heap.size w.heap.size (pk ++ ck) W) (hs : w.heap.size ≤ W.heap.size) => bldByte w.heap.size w.heap.size (pk ++ ck) 44 W h (by rw [List.length_append]; have := HLK.out; have := HCL.out; omega) hs)
        rw [show (((44 : UInt8).toNat : Nat) : Int) = 44 from rfl] at HWB
        have HLT := Lib.hid hlt
        clear hlt hk
        go_wp2_with (fail)
        go_at_call 101
        refine (HTK.out _ (HE.out.trans' (ext1 _ _))).mono ?_
        rintro e w1 ⟨rfl, hE⟩
        have HE1 := Lib.hid (show Ext w w1 from (HE.out.trans' (ext1 _ _)).trans' hE)
        have HB1 := Lib.hid ((HBK.out.ext (ext1 _ (coinBox s b))).ext hE)
        clear hE
        go_wp2_with (fail)
        go_at_call 164
        refine (HWS.out _ HB1.out HE1.out.size).mono ?_
        rintro e w2 ⟨rfl, hb2, hE⟩
        have HE2 := Lib.hid (show Ext w w2 from Below.trans HE1.out hE)
        have HB2 := Lib.hid hb2
        clear hE hb2
        go_wp2_with (fail)
        go_at_call 165
        refine (HWB.out _ HB2.out HE2.out.size).mono ?_
        rintro e w3 ⟨rfl, hb3, hE⟩
        have HE3 := Lib.hid (show Ext w w3 from Below.trans HE2.out hE)
        have HB3 := Lib.hid hb3
        clear hE hb3
        go_wp2
        go_roundw
        case rel => exact ⟨k + 1, by have := HLT.out; omega, by go_num, by rw [if_neg (by omega), HSK.out]; exact HB3.out, HE3.out⟩
        case measure => first | (simp; done) | (simp [intOf]; omega)
      · obtain rfl : k = m := by omega
        clear hlt hk
        have HFIN := Lib.hid (show strB (pk ++ ck) = strB (sumK (l.map Co.val) n) by rw [← HSK.out, HM.out])
        go_wp2_with (fail)
        go_at_call 101
        refine (HTK.out _ HE.out).mono ?_
        rintro e w1 ⟨rfl, hE⟩
        have HE1 := Lib.hid (show Ext w w1 from HE.out.trans' hE)
        have HB1 := Lib.hid (HBK.out.ext hE)
        clear hE
        go_wp2_with (fail)
        go_at_call 164
        refine (HWS.out _ HB1.out HE1.out.size).mono ?_
        rintro e w2 ⟨rfl, hb2, hE⟩
        have HE2 := Lib.hid (show Ext w w2 from Below.trans HE1.out hE)
        have HB2 := Lib.hid hb2
        clear hE hb2
        go_wp2_with (fail)
        go_at_call 166
        refine (bldText _ _ _ _ HB2.out HE2.out.size).mono ?_
        rintro e w3 ⟨rfl, hE⟩
        have HE3 := Lib.hid (show Ext w w3 from Below.trans HE2.out hE)
        clear hE
        go_wp2
        go_ret
        rw [← HFIN.out]
        exact ⟨rfl, HE3.out⟩

set_option maxRecDepth 100000 in
theorem iTextOf (A : Option Addr) (n c : Nat) (l : List (ByteArray × Int)) (w : World) (hl : l.length = n) (hn : n ≤ 1000) (h : PlainAt w A l) (hb : ∀ x ∈ l, x.1.size ≤ 200 ∧ -1099511627776 ≤ x.2 ∧ x.2 ≤ 1099511627776) (hL : Leaf w) :
    Calls Tryz.prog 54 #[.slice A n c] w (RetE (.string (strB (sumK l n))) w) := by
  have HC := Lib.hid (iCoins A n c l w hl (by omega) h (fun x hx => by have := hb x hx; unfold maxI; omega))
  have HL := Lib.hid hl; have HB := Lib.hid hb; have HF := Lib.hid hL; have HN := Lib.hid hn
  clear hl h hb hL hn
  go_enter Tryz.func54, Tryz.ntmps54
  go_wp2_with (fail)
  go_at_call 111
  refine HC.out.mono ?_
  rintro e w1 ⟨v, cs, rfl, hv, ho, hE⟩
  obtain ⟨A1, c1, rfl, hc1⟩ := own_cap ho.1
  have hat := (own_at ho).1
  have hlen : cs.length = n := by have := congrArg List.length hv; rw [List.length_map] at this; rw [this]; exact HL.out
  have HT := Lib.hid (tStringC A1 cs.length c1 cs w1 rfl (by rw [hlen]; exact HN.out) hc1 hat (by rw [hv]; exact HB.out) (HF.out.ext hE))
  rw [hv, hlen] at HT
  have HE := Lib.hid hE
  have HLN := Lib.hid hlen
  rw [hlen]
  clear hv ho hat hE hlen
  go_wp2_with (go_at_call 112; (with_reducible refine HT.out.mono ?_); rintro e w2 ⟨rfl, hE⟩; have HE2 := Lib.hid hE; clear hE)
  go_ret
  exact ⟨rfl, HE.out.trans' HE2.out⟩
end Go.Proofs.YtfafiahefjimdaaGreatDoor
