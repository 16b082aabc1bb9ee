/-
  The closures of the law FnCoinsCompare, and the reference's SumAll with each of them.
-/
import Derived.Test.YtagfbefgcijegaaGreatDoorGG
import Derived.Test.YtagfbefgcijegaaGreatDoorGE
import Derived.Deep.RegionHeld3
import Derived.Deep.DeepCutAuto
namespace Go.Proofs.YtagfbefgcijegaaGreatDoor
open Go Go.RowKit

/-- A variable that holds a list. -/
def SlAt (w : World) (b : Nat) (A : Option Addr) (n c : Nat) (l : List (ByteArray × Int)) : Prop := Blk w b 22 [.slice A n c] ∧ PlainAt w A l ∧ l.length = n ∧ n ≤ 1000000 ∧ (l.Pairwise fun a b => keyLt a.1 b.1 = true) ∧ ∀ x ∈ l, 0 ≤ x.2 ∧ x.2 ≤ 1125899906842624
theorem SlAt.ext {w w' : World} {b : Nat} {A : Option Addr} {n c : Nat} {l : List (ByteArray × Int)} (h : SlAt w b A n c l) (e : Ext w w') : SlAt w' b A n c l := ⟨h.1.ext e, h.2.1.ext e, h.2.2⟩
theorem SlAt.tot {w : World} {b : Nat} {A : Option Addr} {n c : Nat} {l : List (ByteArray × Int)} (h : SlAt w b A n c l) (s : ByteArray) : 0 ≤ totalP s l ∧ totalP s l ≤ 1125899906842624 := by
  by_cases hs : ∃ x ∈ l, x.1 = s
  · obtain ⟨x, hx, rfl⟩ := hs
    rw [tot_get h.2.2.2.2.1 hx]; exact h.2.2.2.2.2 x hx
  · rw [totalP_none (fun x hx e => hs ⟨x, hx, e⟩)]; omega

set_option maxRecDepth 100000 in
set_option maxHeartbeats 1000000 in
theorem cl_above (b : Nat) (A : Option Addr) (n c : Nat) (lx : List (ByteArray × Int)) (s : ByteArray) (z : Int) (w : World) (h : SlAt w b A n c lx) (hz : 0 ≤ z ∧ z ≤ 1125899906842624) :
    Calls Tryz.prog 61 #[.agg #[.string s, .int .i64 z], .pointer (some ⟨b, 0, none⟩)] w (RetE (.bool (decide (z < totalP s lx))) w) := by
  have HT := Lib.hid (h.tot s)
  have HC := Lib.hid (fun (V : World) (e : Ext w V) => sSumOf A n c lx s V h.2.2.1 h.2.2.2.1 (h.2.1.ext e) h.2.2.2.2.1)
  obtain ⟨W, hW⟩ : ∃ W, W = w.alloc (.cells #[.string s, .int .i64 z] 43) := ⟨_, rfl⟩
  have EW := Lib.hid (show Ext w W by rw [hW]; exact ext1 _ _)
  have KX := Lib.hid (show Blk W w.heap.size 43 [.string s, .int .i64 z] by rw [hW]; exact blk_new0 w 43 [.string s, .int .i64 z])
  have KB := Lib.hid (h.1.ext EW.out)
  have CB0 : w.cell? ⟨b, 0, none⟩ = some (.slice A n c) := (h.1.cell 0).trans rfl
  skip
  have HWW := Lib.hid hW; clear hW h
  obtain ⟨m, hm⟩ : ∃ m, m = totalP s lx := ⟨_, rfl⟩
  rw [← hm] at HT HC ⊢
  clear hm
  have m0 := HT.out.1; have m1 := HT.out.2; have z0 := hz.1; have z1 := hz.2
  skip
  clear HT hz
  have cb : W.cell? ⟨b, 0, none⟩ = some (.slice A n c) := (KB.out.cell 0).trans rfl
  have cx : W.cell? ⟨w.heap.size, 0, none⟩ = some (.string s) := (KX.out.cell 0).trans rfl
  have cy : W.cell? ⟨w.heap.size, 1, none⟩ = some (.int .i64 z) := (KX.out.cell 1).trans rfl
  obtain ⟨r, hr⟩ : ∃ r, r = decide (z < m) := ⟨_, rfl⟩
  rw [← hr]
  have er := hr.symm; clear hr
  go_enter Tryz.func61, Tryz.ntmps61
  go_upto_region 1 with fail
  rw [← HWW.out]
  go_region_held3 (fun w' => w'.cell? ⟨b, 0, none⟩ = some (.slice A n c) ∧ w'.cell? ⟨w.heap.size, 0, none⟩ = some (.string s) ∧ w'.cell? ⟨w.heap.size, 1, none⟩ = some (.int .i64 z)) (first | exact KK | go_keep) (first | (go_at_call 33; refine (HC.out _ (EW.out.trans' (Ext.drewN' _ 1))).mono ?_; rintro e w1 ⟨rfl, hE⟩; have HE := Lib.hid (Ext.undrew hE); have KK := And.intro (HE.out.cell' cb) (And.intro (HE.out.cell' cx) (HE.out.cell' cy)); clear hE))
  all_goals go_wp2
  all_goals go_ret
  all_goals exact ⟨rfl, EW.out.trans' HE.out⟩

set_option maxRecDepth 100000 in
set_option maxHeartbeats 1000000 in
theorem all_above (b : Nat) (A B : Option Addr) (n c m d : Nat) (lx l : List (ByteArray × Int)) (w : World) (hX : SlAt w b A n c lx) (hl : l.length = m) (hn : m ≤ 1000000) (h : PlainAt w B l) (hz : ∀ x ∈ l, 0 ≤ x.2 ∧ x.2 ≤ 1125899906842624) :
    Calls Tryz.prog 46 #[.slice B m d, .func (.func 61) #[] #[.pointer (some ⟨b, 0, none⟩)]] w (RetE (.bool (l.all fun x => decide (x.2 < totalP x.1 lx))) w) := by
  have HL := Lib.hid hl; have HP := Lib.hid h
  have HC := Lib.hid (fun (V : World) (e : Ext w V) (s : ByteArray) (z : Int) (hz : 0 ≤ z ∧ z ≤ 1125899906842624) => cl_above b A n c lx s z V (hX.ext e) hz)
  have HZ := Lib.hid hz
  obtain ⟨f, hf⟩ : ∃ f : ByteArray → Int → Bool, f = fun s z => decide (z < totalP s lx) := ⟨_, rfl⟩
  have HC2 := Lib.hid (show ∀ (V : World) (e : Ext w V) (s : ByteArray) (z : Int) (hz : 0 ≤ z ∧ z ≤ 1125899906842624), Calls Tryz.prog 61 #[.agg #[.string s, .int .i64 z], .pointer (some ⟨b, 0, none⟩)] V (RetE (.bool (f s z)) V) by rw [hf]; exact HC.out)
  have HF := Lib.hid (show (l.all fun x => decide (x.2 < totalP x.1 lx)) = l.all fun x => f x.1 x.2 by rw [hf])
  rw [HF.out]
  clear hl h hX hz hf HC HF
  go_enter Tryz.func46, Tryz.ntmps46
  go_wp2
  go_loopw [9] (fun i wr => ∃ k : Nat, k ≤ m ∧ i = .int .i64 k ∧ (∀ x ∈ l.take k, f x.1 x.2 = true) ∧ Ext w wr) (fun i _ => m - (intOf i).toNat)
  case atStart => exact ⟨0, Nat.zero_le _, rfl, (fun x hx => by simp at hx), Ext.refl _⟩
  case round =>
    obtain ⟨k, hk, rfl, hq, hE⟩ := hrel
    have HQ := Lib.hid hq; have HE := Lib.hid hE
    clear hq hE
    by_cases hlt : k < m
    · have hkl : k < l.length := by rw [HL.out]; exact hlt
      obtain ⟨s, hs⟩ : ∃ s, s = l[k].1 := ⟨_, rfl⟩
      obtain ⟨z, hzz⟩ : ∃ z, z = l[k].2 := ⟨_, rfl⟩
      obtain ⟨g, o, hA, hc⟩ := HP.out (by intro e; have := congrArg List.length e; simp at this; rw [this] at hkl; simp at hkl)
      subst hA
      have hck := hc k (by simpa using hkl)
      have cs0 : wr.cell? ⟨g, o + k * 2, none⟩ = some (.string s) := HE.out.cell' (by rw [hck.1, hs]; simp [plain])
      have cs1 : wr.cell? ⟨g, o + k * 2 + 1, none⟩ = some (.int .i64 z) := HE.out.cell' (by rw [hck.2, hzz]; simp [plain])
      have HX := Lib.hid (show l[k] = (s, z) by rw [hs, hzz]); have HM := Lib.hid (List.getElem_mem hkl)
      have HZK := Lib.hid (show 0 ≤ z ∧ z ≤ 1125899906842624 by rw [hzz]; exact HZ.out _ (List.getElem_mem hkl))
      clear hs hzz hck hc
      have HCK := Lib.hid (fun (V : World) (e : Ext wr V) => HC2.out V (HE.out.trans' e) s z HZK.out)
      obtain ⟨r, hr⟩ : ∃ r, r = f s z := ⟨_, rfl⟩
      rw [← hr] at HCK
      have HR := Lib.hid hr; clear hr
      cases r
      · have F := Lib.hid (show (l.all fun x => f x.1 x.2) = false by rw [List.all_eq_false]; exact ⟨l[k], HM.out, by rw [HX.out]; rw [← HR.out]; simp⟩)
        go_wp2_with (first | (go_at_call 61; (with_reducible refine (HCK.out _ (ext1 _ _)).mono ?_); rintro e w1 ⟨rfl, hE⟩; have HE1 := Lib.hid hE; clear hE))
        go_ret
        rw [F.out]; exact ⟨rfl, (HE.out.trans' (Ext.alloc' _ _)).trans' HE1.out⟩
      · go_wp2_with (first | (go_at_call 61; (with_reducible refine (HCK.out _ (ext1 _ _)).mono ?_); rintro e w1 ⟨rfl, hE⟩; have HE1 := Lib.hid hE; clear hE))
        go_roundw
        case rel =>
          refine ⟨k + 1, by omega, by go_num, fun x hx => ?_, (HE.out.trans' (Ext.alloc' _ _)).trans' HE1.out⟩
          rw [List.take_succ_eq_append_getElem hkl, List.mem_append, List.mem_singleton] at hx
          rcases hx with hx | rfl
          · exact HQ.out x hx
          · rw [HX.out]; exact HR.out.symm
        case measure => simp [intOf]; omega
    · obtain rfl : k = m := by omega
      have F := Lib.hid (show (l.all fun x => f x.1 x.2) = true by
        have := HQ.out
        rw [List.take_of_length_le (by rw [HL.out]; exact Nat.le_refl _)] at this
        rw [List.all_eq_true]; exact this)
      go_wp2
      go_ret
      rw [F.out]; exact ⟨rfl, HE.out⟩

set_option maxRecDepth 100000 in
set_option maxHeartbeats 1000000 in
theorem cl_least (b : Nat) (A : Option Addr) (n c : Nat) (lx : List (ByteArray × Int)) (s : ByteArray) (z : Int) (w : World) (h : SlAt w b A n c lx) (hz : 0 ≤ z ∧ z ≤ 1125899906842624) :
    Calls Tryz.prog 63 #[.agg #[.string s, .int .i64 z], .pointer (some ⟨b, 0, none⟩)] w (RetE (.bool (decide (z ≤ totalP s lx))) w) := by
  have HT := Lib.hid (h.tot s)
  have HC := Lib.hid (fun (V : World) (e : Ext w V) => sSumOf A n c lx s V h.2.2.1 h.2.2.2.1 (h.2.1.ext e) h.2.2.2.2.1)
  obtain ⟨W, hW⟩ : ∃ W, W = w.alloc (.cells #[.string s, .int .i64 z] 43) := ⟨_, rfl⟩
  have EW := Lib.hid (show Ext w W by rw [hW]; exact ext1 _ _)
  have KX := Lib.hid (show Blk W w.heap.size 43 [.string s, .int .i64 z] by rw [hW]; exact blk_new0 w 43 [.string s, .int .i64 z])
  have KB := Lib.hid (h.1.ext EW.out)
  have CB0 : w.cell? ⟨b, 0, none⟩ = some (.slice A n c) := (h.1.cell 0).trans rfl
  skip
  have HWW := Lib.hid hW; clear hW h
  obtain ⟨m, hm⟩ : ∃ m, m = totalP s lx := ⟨_, rfl⟩
  rw [← hm] at HT HC ⊢
  clear hm
  have m0 := HT.out.1; have m1 := HT.out.2; have z0 := hz.1; have z1 := hz.2
  skip
  clear HT hz
  have cb : W.cell? ⟨b, 0, none⟩ = some (.slice A n c) := (KB.out.cell 0).trans rfl
  have cx : W.cell? ⟨w.heap.size, 0, none⟩ = some (.string s) := (KX.out.cell 0).trans rfl
  have cy : W.cell? ⟨w.heap.size, 1, none⟩ = some (.int .i64 z) := (KX.out.cell 1).trans rfl
  obtain ⟨r, hr⟩ : ∃ r, r = decide (z ≤ m) := ⟨_, rfl⟩
  rw [← hr]
  have er := hr.symm; clear hr
  go_enter Tryz.func63, Tryz.ntmps63
  go_upto_region 1 with fail
  rw [← HWW.out]
  go_region_held3 (fun w' => w'.cell? ⟨b, 0, none⟩ = some (.slice A n c) ∧ w'.cell? ⟨w.heap.size, 0, none⟩ = some (.string s) ∧ w'.cell? ⟨w.heap.size, 1, none⟩ = some (.int .i64 z)) (first | exact KK | go_keep) (first | (go_at_call 33; refine (HC.out _ (EW.out.trans' (Ext.drewN' _ 1))).mono ?_; rintro e w1 ⟨rfl, hE⟩; have HE := Lib.hid (Ext.undrew hE); have KK := And.intro (HE.out.cell' cb) (And.intro (HE.out.cell' cx) (HE.out.cell' cy)); clear hE))
  all_goals go_wp2
  all_goals go_ret
  all_goals exact ⟨rfl, EW.out.trans' HE.out⟩

set_option maxRecDepth 100000 in
set_option maxHeartbeats 1000000 in
theorem all_least (b : Nat) (A B : Option Addr) (n c m d : Nat) (lx l : List (ByteArray × Int)) (w : World) (hX : SlAt w b A n c lx) (hl : l.length = m) (hn : m ≤ 1000000) (h : PlainAt w B l) (hz : ∀ x ∈ l, 0 ≤ x.2 ∧ x.2 ≤ 1125899906842624) :
    Calls Tryz.prog 46 #[.slice B m d, .func (.func 63) #[] #[.pointer (some ⟨b, 0, none⟩)]] w (RetE (.bool (l.all fun x => decide (x.2 ≤ totalP x.1 lx))) w) := by
  have HL := Lib.hid hl; have HP := Lib.hid h
  have HC := Lib.hid (fun (V : World) (e : Ext w V) (s : ByteArray) (z : Int) (hz : 0 ≤ z ∧ z ≤ 1125899906842624) => cl_least b A n c lx s z V (hX.ext e) hz)
  have HZ := Lib.hid hz
  obtain ⟨f, hf⟩ : ∃ f : ByteArray → Int → Bool, f = fun s z => decide (z ≤ totalP s lx) := ⟨_, rfl⟩
  have HC2 := Lib.hid (show ∀ (V : World) (e : Ext w V) (s : ByteArray) (z : Int) (hz : 0 ≤ z ∧ z ≤ 1125899906842624), Calls Tryz.prog 63 #[.agg #[.string s, .int .i64 z], .pointer (some ⟨b, 0, none⟩)] V (RetE (.bool (f s z)) V) by rw [hf]; exact HC.out)
  have HF := Lib.hid (show (l.all fun x => decide (x.2 ≤ totalP x.1 lx)) = l.all fun x => f x.1 x.2 by rw [hf])
  rw [HF.out]
  clear hl h hX hz hf HC HF
  go_enter Tryz.func46, Tryz.ntmps46
  go_wp2
  go_loopw [9] (fun i wr => ∃ k : Nat, k ≤ m ∧ i = .int .i64 k ∧ (∀ x ∈ l.take k, f x.1 x.2 = true) ∧ Ext w wr) (fun i _ => m - (intOf i).toNat)
  case atStart => exact ⟨0, Nat.zero_le _, rfl, (fun x hx => by simp at hx), Ext.refl _⟩
  case round =>
    obtain ⟨k, hk, rfl, hq, hE⟩ := hrel
    have HQ := Lib.hid hq; have HE := Lib.hid hE
    clear hq hE
    by_cases hlt : k < m
    · have hkl : k < l.length := by rw [HL.out]; exact hlt
      obtain ⟨s, hs⟩ : ∃ s, s = l[k].1 := ⟨_, rfl⟩
      obtain ⟨z, hzz⟩ : ∃ z, z = l[k].2 := ⟨_, rfl⟩
      obtain ⟨g, o, hA, hc⟩ := HP.out (by intro e; have := congrArg List.length e; simp at this; rw [this] at hkl; simp at hkl)
      subst hA
      have hck := hc k (by simpa using hkl)
      have cs0 : wr.cell? ⟨g, o + k * 2, none⟩ = some (.string s) := HE.out.cell' (by rw [hck.1, hs]; simp [plain])
      have cs1 : wr.cell? ⟨g, o + k * 2 + 1, none⟩ = some (.int .i64 z) := HE.out.cell' (by rw [hck.2, hzz]; simp [plain])
      have HX := Lib.hid (show l[k] = (s, z) by rw [hs, hzz]); have HM := Lib.hid (List.getElem_mem hkl)
      have HZK := Lib.hid (show 0 ≤ z ∧ z ≤ 1125899906842624 by rw [hzz]; exact HZ.out _ (List.getElem_mem hkl))
      clear hs hzz hck hc
      have HCK := Lib.hid (fun (V : World) (e : Ext wr V) => HC2.out V (HE.out.trans' e) s z HZK.out)
      obtain ⟨r, hr⟩ : ∃ r, r = f s z := ⟨_, rfl⟩
      rw [← hr] at HCK
      have HR := Lib.hid hr; clear hr
      cases r
      · have F := Lib.hid (show (l.all fun x => f x.1 x.2) = false by rw [List.all_eq_false]; exact ⟨l[k], HM.out, by rw [HX.out]; rw [← HR.out]; simp⟩)
        go_wp2_with (first | (go_at_call 63; (with_reducible refine (HCK.out _ (ext1 _ _)).mono ?_); rintro e w1 ⟨rfl, hE⟩; have HE1 := Lib.hid hE; clear hE))
        go_ret
        rw [F.out]; exact ⟨rfl, (HE.out.trans' (Ext.alloc' _ _)).trans' HE1.out⟩
      · go_wp2_with (first | (go_at_call 63; (with_reducible refine (HCK.out _ (ext1 _ _)).mono ?_); rintro e w1 ⟨rfl, hE⟩; have HE1 := Lib.hid hE; clear hE))
        go_roundw
        case rel =>
          refine ⟨k + 1, by omega, by go_num, fun x hx => ?_, (HE.out.trans' (Ext.alloc' _ _)).trans' HE1.out⟩
          rw [List.take_succ_eq_append_getElem hkl, List.mem_append, List.mem_singleton] at hx
          rcases hx with hx | rfl
          · exact HQ.out x hx
          · rw [HX.out]; exact HR.out.symm
        case measure => simp [intOf]; omega
    · obtain rfl : k = m := by omega
      have F := Lib.hid (show (l.all fun x => f x.1 x.2) = true by
        have := HQ.out
        rw [List.take_of_length_le (by rw [HL.out]; exact Nat.le_refl _)] at this
        rw [List.all_eq_true]; exact this)
      go_wp2
      go_ret
      rw [F.out]; exact ⟨rfl, HE.out⟩

set_option maxRecDepth 100000 in
set_option maxHeartbeats 1000000 in
theorem cl_any (b : Nat) (A : Option Addr) (n c : Nat) (lx : List (ByteArray × Int)) (s : ByteArray) (z : Int) (p : Nat) (q : Int) (w : World) (h : SlAt w b A n c lx) (hz : 0 ≤ z ∧ z ≤ 1125899906842624) (hp : Blk w p 2 [.int .i64 q]) (hq : 0 ≤ q ∧ q ≤ 1) :
    Calls Tryz.prog 65 #[.agg #[.string s, .int .i64 z], .pointer (some ⟨b, 0, none⟩), .pointer (some ⟨p, 0, none⟩)] w (RetE (.bool ((decide (totalP s lx = 0) || decide (z + q ≤ totalP s lx)))) w) := by
  have HT := Lib.hid (h.tot s)
  have HC := Lib.hid (fun (V : World) (e : Ext w V) => sSumOf A n c lx s V h.2.2.1 h.2.2.2.1 (h.2.1.ext e) h.2.2.2.2.1)
  obtain ⟨W, hW⟩ : ∃ W, W = w.alloc (.cells #[.string s, .int .i64 z] 43) := ⟨_, rfl⟩
  have EW := Lib.hid (show Ext w W by rw [hW]; exact ext1 _ _)
  have KX := Lib.hid (show Blk W w.heap.size 43 [.string s, .int .i64 z] by rw [hW]; exact blk_new0 w 43 [.string s, .int .i64 z])
  have KB := Lib.hid (h.1.ext EW.out)
  have CB0 : w.cell? ⟨b, 0, none⟩ = some (.slice A n c) := (h.1.cell 0).trans rfl
  have KP := Lib.hid (hp.ext EW.out)
  have HWW := Lib.hid hW; clear hW h hp
  obtain ⟨m, hm⟩ : ∃ m, m = totalP s lx := ⟨_, rfl⟩
  rw [← hm] at HT HC ⊢
  clear hm
  have m0 := HT.out.1; have m1 := HT.out.2; have z0 := hz.1; have z1 := hz.2
  have q0 := hq.1; have q1 := hq.2; clear hq
  clear HT hz
  have cb : W.cell? ⟨b, 0, none⟩ = some (.slice A n c) := (KB.out.cell 0).trans rfl
  have cx : W.cell? ⟨w.heap.size, 0, none⟩ = some (.string s) := (KX.out.cell 0).trans rfl
  have cy : W.cell? ⟨w.heap.size, 1, none⟩ = some (.int .i64 z) := (KX.out.cell 1).trans rfl
  go_enter Tryz.func65, Tryz.ntmps65
  have cw := cell_old (.cells #[.string s, .int .i64 z] 43) ((show w.cell? ⟨b, 0, none⟩ = some (.slice A n c) from CB0))
  go_wp2_with (fail)
  go_at_call 33
  rw [← HWW.out]
  refine (HC.out _ EW.out).mono ?_
  rintro e w1 ⟨rfl, hE⟩
  have HE := Lib.hid hE
  have k1 : w1.cell? ⟨w.heap.size, 1, none⟩ = some (.int .i64 z) := hE.cell' cy
  have k2 : w1.cell? ⟨p, 0, none⟩ = some (.int .i64 q) := ((KP.out.ext hE).cell 0).trans rfl
  clear hE cw
  by_cases g : m = 0
  · have d : (m == 0) = true := by simpa using g
    have D2 := Lib.hid (show (decide (m = 0) || decide (z + q ≤ m)) = true by simp [g])
    clear g
    go_wp2
    go_ret
    exact ⟨by rw [D2.out] <;> rfl, EW.out.trans' HE.out⟩
  · have d : (m == 0) = false := by simpa using g
    obtain ⟨r, hr⟩ : ∃ r, r = decide (z + q ≤ m) := ⟨_, rfl⟩
    have D2 := Lib.hid (show (decide (m = 0) || decide (z + q ≤ m)) = r by simp [g, hr])
    clear g
    have er := hr.symm; clear hr
    go_wp2
    go_ret
    exact ⟨by rw [D2.out] <;> rfl, EW.out.trans' HE.out⟩

set_option maxRecDepth 100000 in
set_option maxHeartbeats 1000000 in
theorem all_any (b : Nat) (A B : Option Addr) (n c m d : Nat) (lx l : List (ByteArray × Int)) (p : Nat) (q : Int) (w : World) (hX : SlAt w b A n c lx) (hl : l.length = m) (hn : m ≤ 1000000) (h : PlainAt w B l) (hz : ∀ x ∈ l, 0 ≤ x.2 ∧ x.2 ≤ 1125899906842624) (hp : Blk w p 2 [.int .i64 q]) (hq : 0 ≤ q ∧ q ≤ 1) :
    Calls Tryz.prog 46 #[.slice B m d, .func (.func 65) #[] #[.pointer (some ⟨b, 0, none⟩), .pointer (some ⟨p, 0, none⟩)]] w (RetE (.bool (l.all fun x => (decide (totalP x.1 lx = 0) || decide (x.2 + q ≤ totalP x.1 lx)))) w) := by
  have HL := Lib.hid hl; have HP := Lib.hid h
  have HC := Lib.hid (fun (V : World) (e : Ext w V) (s : ByteArray) (z : Int) (hz : 0 ≤ z ∧ z ≤ 1125899906842624) => cl_any b A n c lx s z p q V (hX.ext e) hz (hp.ext e) hq)
  have HZ := Lib.hid hz
  obtain ⟨f, hf⟩ : ∃ f : ByteArray → Int → Bool, f = fun s z => (decide (totalP s lx = 0) || decide (z + q ≤ totalP s lx)) := ⟨_, rfl⟩
  have HC2 := Lib.hid (show ∀ (V : World) (e : Ext w V) (s : ByteArray) (z : Int) (hz : 0 ≤ z ∧ z ≤ 1125899906842624), Calls Tryz.prog 65 #[.agg #[.string s, .int .i64 z], .pointer (some ⟨b, 0, none⟩), .pointer (some ⟨p, 0, none⟩)] V (RetE (.bool (f s z)) V) by rw [hf]; exact HC.out)
  have HF := Lib.hid (show (l.all fun x => (decide (totalP x.1 lx = 0) || decide (x.2 + q ≤ totalP x.1 lx))) = l.all fun x => f x.1 x.2 by rw [hf])
  rw [HF.out]
  clear hl h hX hz hf HC HF hp hq
  go_enter Tryz.func46, Tryz.ntmps46
  go_wp2
  go_loopw [9] (fun i wr => ∃ k : Nat, k ≤ m ∧ i = .int .i64 k ∧ (∀ x ∈ l.take k, f x.1 x.2 = true) ∧ Ext w wr) (fun i _ => m - (intOf i).toNat)
  case atStart => exact ⟨0, Nat.zero_le _, rfl, (fun x hx => by simp at hx), Ext.refl _⟩
  case round =>
    obtain ⟨k, hk, rfl, hq, hE⟩ := hrel
    have HQ := Lib.hid hq; have HE := Lib.hid hE
    clear hq hE
    by_cases hlt : k < m
    · have hkl : k < l.length := by rw [HL.out]; exact hlt
      obtain ⟨s, hs⟩ : ∃ s, s = l[k].1 := ⟨_, rfl⟩
      obtain ⟨z, hzz⟩ : ∃ z, z = l[k].2 := ⟨_, rfl⟩
      obtain ⟨g, o, hA, hc⟩ := HP.out (by intro e; have := congrArg List.length e; simp at this; rw [this] at hkl; simp at hkl)
      subst hA
      have hck := hc k (by simpa using hkl)
      have cs0 : wr.cell? ⟨g, o + k * 2, none⟩ = some (.string s) := HE.out.cell' (by rw [hck.1, hs]; simp [plain])
      have cs1 : wr.cell? ⟨g, o + k * 2 + 1, none⟩ = some (.int .i64 z) := HE.out.cell' (by rw [hck.2, hzz]; simp [plain])
      have HX := Lib.hid (show l[k] = (s, z) by rw [hs, hzz]); have HM := Lib.hid (List.getElem_mem hkl)
      have HZK := Lib.hid (show 0 ≤ z ∧ z ≤ 1125899906842624 by rw [hzz]; exact HZ.out _ (List.getElem_mem hkl))
      clear hs hzz hck hc
      have HCK := Lib.hid (fun (V : World) (e : Ext wr V) => HC2.out V (HE.out.trans' e) s z HZK.out)
      obtain ⟨r, hr⟩ : ∃ r, r = f s z := ⟨_, rfl⟩
      rw [← hr] at HCK
      have HR := Lib.hid hr; clear hr
      cases r
      · have F := Lib.hid (show (l.all fun x => f x.1 x.2) = false by rw [List.all_eq_false]; exact ⟨l[k], HM.out, by rw [HX.out]; rw [← HR.out]; simp⟩)
        go_wp2_with (first | (go_at_call 65; (with_reducible refine (HCK.out _ (ext1 _ _)).mono ?_); rintro e w1 ⟨rfl, hE⟩; have HE1 := Lib.hid hE; clear hE))
        go_ret
        rw [F.out]; exact ⟨rfl, (HE.out.trans' (Ext.alloc' _ _)).trans' HE1.out⟩
      · go_wp2_with (first | (go_at_call 65; (with_reducible refine (HCK.out _ (ext1 _ _)).mono ?_); rintro e w1 ⟨rfl, hE⟩; have HE1 := Lib.hid hE; clear hE))
        go_roundw
        case rel =>
          refine ⟨k + 1, by omega, by go_num, fun x hx => ?_, (HE.out.trans' (Ext.alloc' _ _)).trans' HE1.out⟩
          rw [List.take_succ_eq_append_getElem hkl, List.mem_append, List.mem_singleton] at hx
          rcases hx with hx | rfl
          · exact HQ.out x hx
          · rw [HX.out]; exact HR.out.symm
        case measure => simp [intOf]; omega
    · obtain rfl : k = m := by omega
      have F := Lib.hid (show (l.all fun x => f x.1 x.2) = true by
        have := HQ.out
        rw [List.take_of_length_le (by rw [HL.out]; exact Nat.le_refl _)] at this
        rw [List.all_eq_true]; exact this)
      go_wp2
      go_ret
      rw [F.out]; exact ⟨rfl, HE.out⟩

set_option maxRecDepth 100000 in
set_option maxHeartbeats 1000000 in
theorem cl_sub (b : Nat) (A : Option Addr) (n c : Nat) (lx : List (ByteArray × Int)) (s : ByteArray) (z : Int) (w : World) (h : SlAt w b A n c lx) (hz : 0 ≤ z ∧ z ≤ 1125899906842624) :
    Calls Tryz.prog 66 #[.agg #[.string s, .int .i64 z], .pointer (some ⟨b, 0, none⟩)] w (RetE (.bool (decide (0 < totalP s lx))) w) := by
  have HT := Lib.hid (h.tot s)
  have HC := Lib.hid (fun (V : World) (e : Ext w V) => sSumOf A n c lx s V h.2.2.1 h.2.2.2.1 (h.2.1.ext e) h.2.2.2.2.1)
  obtain ⟨W, hW⟩ : ∃ W, W = w.alloc (.cells #[.string s, .int .i64 z] 43) := ⟨_, rfl⟩
  have EW := Lib.hid (show Ext w W by rw [hW]; exact ext1 _ _)
  have KX := Lib.hid (show Blk W w.heap.size 43 [.string s, .int .i64 z] by rw [hW]; exact blk_new0 w 43 [.string s, .int .i64 z])
  have KB := Lib.hid (h.1.ext EW.out)
  have CB0 : w.cell? ⟨b, 0, none⟩ = some (.slice A n c) := (h.1.cell 0).trans rfl
  skip
  have HWW := Lib.hid hW; clear hW h
  obtain ⟨m, hm⟩ : ∃ m, m = totalP s lx := ⟨_, rfl⟩
  rw [← hm] at HT HC ⊢
  clear hm
  have m0 := HT.out.1; have m1 := HT.out.2; have z0 := hz.1; have z1 := hz.2
  skip
  clear HT hz
  have cb : W.cell? ⟨b, 0, none⟩ = some (.slice A n c) := (KB.out.cell 0).trans rfl
  have cx : W.cell? ⟨w.heap.size, 0, none⟩ = some (.string s) := (KX.out.cell 0).trans rfl
  have cy : W.cell? ⟨w.heap.size, 1, none⟩ = some (.int .i64 z) := (KX.out.cell 1).trans rfl
  obtain ⟨r, hr⟩ : ∃ r, r = decide (0 < m) := ⟨_, rfl⟩
  rw [← hr]
  have er := hr.symm; clear hr
  go_enter Tryz.func66, Tryz.ntmps66
  have cw := cell_old (.cells #[.string s, .int .i64 z] 43) ((show w.cell? ⟨b, 0, none⟩ = some (.slice A n c) from CB0))
  go_wp2_with (fail)
  go_at_call 33
  rw [← HWW.out]
  refine (HC.out _ EW.out).mono ?_
  rintro e w1 ⟨rfl, hE⟩
  have HE := Lib.hid hE; clear hE
  go_wp2
  go_ret
  exact ⟨rfl, EW.out.trans' HE.out⟩

set_option maxRecDepth 100000 in
set_option maxHeartbeats 1000000 in
theorem all_sub (b : Nat) (A B : Option Addr) (n c m d : Nat) (lx l : List (ByteArray × Int)) (w : World) (hX : SlAt w b A n c lx) (hl : l.length = m) (hn : m ≤ 1000000) (h : PlainAt w B l) (hz : ∀ x ∈ l, 0 ≤ x.2 ∧ x.2 ≤ 1125899906842624) :
    Calls Tryz.prog 46 #[.slice B m d, .func (.func 66) #[] #[.pointer (some ⟨b, 0, none⟩)]] w (RetE (.bool (l.all fun x => decide (0 < totalP x.1 lx))) w) := by
  have HL := Lib.hid hl; have HP := Lib.hid h
  have HC := Lib.hid (fun (V : World) (e : Ext w V) (s : ByteArray) (z : Int) (hz : 0 ≤ z ∧ z ≤ 1125899906842624) => cl_sub b A n c lx s z V (hX.ext e) hz)
  have HZ := Lib.hid hz
  obtain ⟨f, hf⟩ : ∃ f : ByteArray → Int → Bool, f = fun s z => decide (0 < totalP s lx) := ⟨_, rfl⟩
  have HC2 := Lib.hid (show ∀ (V : World) (e : Ext w V) (s : ByteArray) (z : Int) (hz : 0 ≤ z ∧ z ≤ 1125899906842624), Calls Tryz.prog 66 #[.agg #[.string s, .int .i64 z], .pointer (some ⟨b, 0, none⟩)] V (RetE (.bool (f s z)) V) by rw [hf]; exact HC.out)
  have HF := Lib.hid (show (l.all fun x => decide (0 < totalP x.1 lx)) = l.all fun x => f x.1 x.2 by rw [hf])
  rw [HF.out]
  clear hl h hX hz hf HC HF
  go_enter Tryz.func46, Tryz.ntmps46
  go_wp2
  go_loopw [9] (fun i wr => ∃ k : Nat, k ≤ m ∧ i = .int .i64 k ∧ (∀ x ∈ l.take k, f x.1 x.2 = true) ∧ Ext w wr) (fun i _ => m - (intOf i).toNat)
  case atStart => exact ⟨0, Nat.zero_le _, rfl, (fun x hx => by simp at hx), Ext.refl _⟩
  case round =>
    obtain ⟨k, hk, rfl, hq, hE⟩ := hrel
    have HQ := Lib.hid hq; have HE := Lib.hid hE
    clear hq hE
    by_cases hlt : k < m
    · have hkl : k < l.length := by rw [HL.out]; exact hlt
      obtain ⟨s, hs⟩ : ∃ s, s = l[k].1 := ⟨_, rfl⟩
      obtain ⟨z, hzz⟩ : ∃ z, z = l[k].2 := ⟨_, rfl⟩
      obtain ⟨g, o, hA, hc⟩ := HP.out (by intro e; have := congrArg List.length e; simp at this; rw [this] at hkl; simp at hkl)
      subst hA
      have hck := hc k (by simpa using hkl)
      have cs0 : wr.cell? ⟨g, o + k * 2, none⟩ = some (.string s) := HE.out.cell' (by rw [hck.1, hs]; simp [plain])
      have cs1 : wr.cell? ⟨g, o + k * 2 + 1, none⟩ = some (.int .i64 z) := HE.out.cell' (by rw [hck.2, hzz]; simp [plain])
      have HX := Lib.hid (show l[k] = (s, z) by rw [hs, hzz]); have HM := Lib.hid (List.getElem_mem hkl)
      have HZK := Lib.hid (show 0 ≤ z ∧ z ≤ 1125899906842624 by rw [hzz]; exact HZ.out _ (List.getElem_mem hkl))
      clear hs hzz hck hc
      have HCK := Lib.hid (fun (V : World) (e : Ext wr V) => HC2.out V (HE.out.trans' e) s z HZK.out)
      obtain ⟨r, hr⟩ : ∃ r, r = f s z := ⟨_, rfl⟩
      rw [← hr] at HCK
      have HR := Lib.hid hr; clear hr
      cases r
      · have F := Lib.hid (show (l.all fun x => f x.1 x.2) = false by rw [List.all_eq_false]; exact ⟨l[k], HM.out, by rw [HX.out]; rw [← HR.out]; simp⟩)
        go_wp2_with (first | (go_at_call 66; (with_reducible refine (HCK.out _ (ext1 _ _)).mono ?_); rintro e w1 ⟨rfl, hE⟩; have HE1 := Lib.hid hE; clear hE))
        go_ret
        rw [F.out]; exact ⟨rfl, (HE.out.trans' (Ext.alloc' _ _)).trans' HE1.out⟩
      · go_wp2_with (first | (go_at_call 66; (with_reducible refine (HCK.out _ (ext1 _ _)).mono ?_); rintro e w1 ⟨rfl, hE⟩; have HE1 := Lib.hid hE; clear hE))
        go_roundw
        case rel =>
          refine ⟨k + 1, by omega, by go_num, fun x hx => ?_, (HE.out.trans' (Ext.alloc' _ _)).trans' HE1.out⟩
          rw [List.take_succ_eq_append_getElem hkl, List.mem_append, List.mem_singleton] at hx
          rcases hx with hx | rfl
          · exact HQ.out x hx
          · rw [HX.out]; exact HR.out.symm
        case measure => simp [intOf]; omega
    · obtain rfl : k = m := by omega
      have F := Lib.hid (show (l.all fun x => f x.1 x.2) = true by
        have := HQ.out
        rw [List.take_of_length_le (by rw [HL.out]; exact Nat.le_refl _)] at this
        rw [List.all_eq_true]; exact this)
      go_wp2
      go_ret
      rw [F.out]; exact ⟨rfl, HE.out⟩
end Go.Proofs.YtagfbefgcijegaaGreatDoor
