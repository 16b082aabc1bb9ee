/-
  The contract of zzKeys at the maps of coins: the keys, in order.
-/
import Derived.Test.YtagfbefgcijegaaGreatDoorIns
import Derived.Test.YtagfbefgcijegaaGreatDoorList2
import Derived.BigQuiet
import Derived.Maps.RangeWalk
namespace Go.Proofs.YtagfbefgcijegaaGreatDoor
open Go Go.RowKit Go.Maps

/-- A key of a map of strings. -/
def lk (s : ByteArray) : Lit := .string s.data.toList
theorem lk_inj {s t : ByteArray} (h : lk s = lk t) : s = t := by
  unfold lk at h; injection h with h
  exact ByteArray.ext (Array.ext' h)
theorem keyOf_str {P : Program} {k : TypeId} (hk : P.underlying k = some .string) {s : ByteArray} (hs : s.size ≤ maxLen) : keyOf P k (.string s) = some (lk s) := by
  simp [keyOf, hk, mapKey, hs, lk]
theorem keyOf_str_inv {P : Program} {k : TypeId} (hk : P.underlying k = some .string) {v : Value} {kl : Lit} (h : keyOf P k v = some kl) : ∃ s : ByteArray, v = .string s ∧ kl = lk s := by
  cases v <;> simp [keyOf, hk, mapKey] at h
  exact ⟨_, rfl, h.2.symm⟩
/-- A map's element, as it is. -/
def asIs (v : Value) : Option (DataW Value × List MemPlace) := some (.held v, [])

theorem infoStr : (Tryz.prog.info? 9).map (fun i => (i.zero, i.size, i.bytes)) = some (some (.string ByteArray.empty), 1, 16) := by kernel_rfl
/-- Keys handed back. -/
def RetKeys (D : DataW Value) (w : World) (e : Ending) (w' : World) : Prop :=
  ∃ (v : Value) (ks : List ByteArray), e = .returned v ∧ w'.ownsRow w.heap.size 9 1 v ks.length (ks.map Value.string) ∧ Ext w w' ∧ (∀ s, s ∈ ks ↔ has D (lk s) = true) ∧ ks.Pairwise (fun a b => keyLt a b = true)

theorem strict_of {L : List ByteArray} (h : L.Pairwise fun a b => le a b) (hn : L.Nodup) : L.Pairwise fun a b => keyLt a b = true :=
  (List.pairwise_and_iff.2 ⟨h, hn⟩).imp fun {a b} hh => by
    obtain ⟨h1, h2⟩ := hh
    cases e : keyLt a b
    · exact absurd (keyLt_tri e h1) h2
    · rfl

theorem keysK : Keyed Tryz.prog 9 := string_keyed Tryz.underlying9

theorem row_low {w : World} {base base' : Nat} {E : TypeId} {k n : Nat} {v : Value} {xs : List Value} (h : w.ownsRow base E k v n xs) (hb : base' ≤ base) : w.ownsRow base' E k v n xs := by
  refine ⟨h.1, ?_⟩
  rcases h.2 with h | ⟨g, cap, cur, e, hg, r⟩
  · exact Or.inl h
  · exact Or.inr ⟨g, cap, cur, e, by omega, r⟩
/-- The cells of a row of strings. -/
theorem str_cell {w : World} {g : Nat} {L : List ByteArray} {rest : List Value} (h : Blk w g 9 (L.map Value.string ++ rest)) (j : Nat) (hj : j < L.length) : w.cell? ⟨g, j, none⟩ = some (.string L[j]) := by
  rw [h.cell j, List.getElem?_append_left (by simpa using hj)]; simp [hj]
theorem str_swp {w : World} {g : Nat} {L : List ByteArray} {rest : List Value} (h : Blk w g 9 (L.map Value.string ++ rest)) (j : Nat) (hj : j + 1 < L.length) :
    Blk ((w.setCell ⟨g, j + 1, none⟩ (.string L[j])).setCell ⟨g, j, none⟩ (.string L[j + 1])) g 9 ((swp L j).map Value.string ++ rest) := by
  have := (h.set_ (j + 1) (.string L[j])).set_ j (.string L[j + 1])
  rw [swp_map, swp_set _ _ (by simpa using hj)]
  simpa [List.set_append, show j + 1 < L.length from hj, show j < L.length by omega] using this

set_option maxRecDepth 100000 in
set_option maxHeartbeats 1000000 in
theorem zKeys (b n : Nat) (D : DataW Value) (w : World) (h : w.ownsMap Tryz.prog 9 asIs b n D) (hD : size D ≤ 1000000) :
    Calls Tryz.prog 154 #[.map (some b)] w (RetKeys D w) := by
  obtain ⟨i0, hi, hz0, hz1, hz2⟩ := info_parts infoStr
  have hbl := h.lt
  have HM := Lib.hid h; clear h
  go_enter Tryz.func154, Tryz.ntmps154
  go_wp2_with (first | (at_range; refine wpList_range_own _ rfl _ 122 rfl 9 71 keysK Tryz.underlying122 _ b n _ rfl HM.out ?_; intro w0 hrg0 hg0 hs0; have R0 := Lib.hid (And.intro hrg0 hg0); clear hrg0 hg0))
  go_frame
  go_loopw [3] (fun v wr => ∃ (left : Lit → Bool) (cnt : Nat) (ks : List ByteArray), wr.ranges Tryz.prog 9 asIs b w.heap.size n D left cnt ∧ ks.length + cnt ≤ size D ∧ wr.ownsRow (w.heap.size + 1) 9 1 v ks.length (ks.map Value.string) ∧ Ext w wr ∧
      (∀ s, s ∈ ks ↔ (has D (lk s) = true ∧ left (lk s) = false)) ∧ ks.Nodup ∧ w.heap.size + 1 ≤ wr.heap.size)
    (fun _ wr => wr.rangeLeft b w.heap.size)
  case atStart =>
    exact ⟨_, _, [], R0.out.1, by simp, World.ownsRow_nil _ _ _ _, ⟨R0.out.2.os, R0.out.2.tape, R0.out.2.output, R0.out.2.size, fun i hi => R0.out.2.block i hi (by simp)⟩, fun s => by simp, List.nodup_nil, by omega⟩
  case round =>
    obtain ⟨left, cnt, ks, hrg, hcs, hown, hE, hks, hnd, hsz⟩ := hrel
    have HR := Lib.hid hrg; have HO := Lib.hid hown; have HE := Lib.hid hE; have HK := Lib.hid hks; have HN := Lib.hid hnd
    clear hrg hown hE hks hnd R0
    go_wp2_with (first
      | (at_next; refine wpList_next_ranges _ rfl _ rfl 9 keysK asIs (α := ByteArray) (β := Value) Value.string id (fun key kl hk => by obtain ⟨s, rfl, _⟩ := keyOf_str_inv Tryz.underlying9 hk; exact ⟨s, rfl⟩) (fun v y _ => ⟨v, rfl⟩) b w.heap.size n _ _ _ rfl HR.out ?_ ?_)
      | go_in)
    · intro hc0 hl0
      have hlen : ks.length ≤ 1000000 := by omega
      have HKs := Lib.hid (show ∀ s, s ∈ ks ↔ has D (lk s) = true from fun s => (HK.out s).trans ⟨fun h => h.1, fun h => ⟨h, hl0 _⟩⟩)
      clear HK hl0 hc0 hcs HR
      rcases HO.out.2 with ⟨hv, hn0⟩ | ⟨g, cap, cur, hv, hbg, hgb, hnc, hcm, hcs, hct⟩
      · obtain rfl : ks = [] := List.length_eq_zero_iff.1 hn0
        subst hv
        go_wp2
        go_loopw [5] (fun i wz => i = .int .i64 1 ∧ wz = wr) (fun _ _ => 0)
        case atStart => exact ⟨rfl, rfl⟩
        case round =>
          obtain ⟨rfl, rfl⟩ := hrel
          go_wp2
          go_ret
          exact ⟨_, [], rfl, World.ownsRow_nil _ _ _ _, HE.out, HKs.out, List.Pairwise.nil⟩
      · obtain ⟨m, hm⟩ : ∃ m, m = ks.length := ⟨_, rfl⟩
        have HB := Lib.hid (show Blk wr g 9 (ks.map Value.string ++ cur.toList.drop m) by
          have e : cur.toList = ks.map Value.string ++ cur.toList.drop m := by
            conv => lhs; rw [← List.take_append_drop m cur.toList]
            rw [← hct, ← hm]; simp
          unfold Blk; rw [← e]; simpa using hgb)
        obtain ⟨rest, hrest⟩ : ∃ rest, rest = cur.toList.drop m := ⟨_, rfl⟩
        rw [← hrest] at HB
        have HREST := Lib.hid (show rest.length + m = cap by rw [hrest]; simp; have := hcs; omega)
        rw [← hm] at hv hlen hnc
        have HM2 := Lib.hid hm
        obtain ⟨W1, rfl⟩ : ∃ W1, W1 = wr := ⟨_, rfl⟩
        clear hgb hcs hct hrest hm HO
        subst hv
        go_wp2
        go_loopw [5] (fun i wz => ∃ (k : Nat) (L : List ByteArray), 1 ≤ k ∧ (k ≤ m ∨ k = 1) ∧ i = .int .i64 k ∧ Blk wz g 9 (L.map Value.string ++ rest) ∧ Only g W1 wz ∧ InsO id ks L k) (fun i _ => m + 1 - (intOf i).toNat)
        case atStart => exact ⟨1, ks, Nat.le_refl _, Or.inr rfl, rfl, HB.out, Only.refl _ _, insO_start _⟩
        case round =>
          obtain ⟨k, L, hk1, hk, rfl, hb, ho, hins⟩ := hrel
          have HBz := Lib.hid hb; have HOz := Lib.hid ho; have HIz := Lib.hid hins
          clear hb ho hins
          have HLn := Lib.hid (show L.length = m by rw [HIz.out.1.length_eq, HM2.out])
          by_cases hlt : k < m
          · go_wp2
            go_loopw [6] (fun i wz' => ∃ (j : Nat) (L' : List ByteArray), i = .int .i64 j ∧ Blk wz' g 9 (L'.map Value.string ++ rest) ∧ Only g W1 wz' ∧ InsI id ks L' k j) (fun i _ => (intOf i).toNat)
            case atStart => exact ⟨k, L, rfl, HBz.out, HOz.out, insO_in HIz.out (by rw [HLn.out]; exact hlt)⟩
            case round =>
              obtain ⟨j, L', rfl, hb, ho, hins⟩ := hrel
              have HBy := Lib.hid hb; have HOy := Lib.hid ho; have HIy := Lib.hid hins
              clear hb ho hins HBz HOz HIz HLn
              have HLy := Lib.hid (show L'.length = m by rw [HIy.out.1.length_eq, HM2.out])
              rcases j with _ | j
              · go_wp2
                go_quiet (fail)
                go_wp2
                go_roundw
                case rel => exact ⟨k + 1, L', by omega, by omega, by go_num, HBy.out, HOy.out.drewN _, insI_out0 HIy.out⟩
                case measure => simp [intOf]; omega
              · have hjl : j + 1 < L'.length := by have := HIy.out.2.1; have := HIy.out.2.2.1; omega
                have hjm : j + 1 < m := by rw [← HLy.out]; exact hjl
                obtain ⟨s, hs⟩ : ∃ s, s = L'[j] := ⟨_, rfl⟩
                obtain ⟨t, ht⟩ : ∃ t, t = L'[j + 1] := ⟨_, rfl⟩
                have c0 : wr.cell? ⟨g, j, none⟩ = some (.string s) := by rw [hs]; exact str_cell HBy.out j (by omega)
                have c1 : wr.cell? ⟨g, j + 1, none⟩ = some (.string t) := by rw [ht]; exact str_cell HBy.out (j + 1) hjl
                have f0 : wr.frozen? ⟨g, j, none⟩ = false := HBy.out.frozen _
                have f1 : wr.frozen? ⟨g, j + 1, none⟩ = false := HBy.out.frozen _
                have HS := Lib.hid hs; have HT := Lib.hid ht; clear hs ht
                have b0 : (0 : Int) ≤ (j : Int) := by omega
                have b1 : (j : Int) < (m : Int) := by omega
                have b2 : (j : Int) + 1 < (m : Int) := by omega
                have b3 : (0 : Int) < (j : Int) + 1 := by omega
                by_cases hgt : keyLt t s = true
                · have HG := Lib.hid hgt
                  have g1 : Op.bytesLess t.toList s.toList = true := hgt
                  clear hgt
                  go_wp2
                  go_quiet (fail)
                  go_wp2
                  go_region
                  all_goals go_wp2
                  go_roundw
                  case rel =>
                    refine ⟨j, swp L' j, rfl, ?_, ?_, insI_swp HIy.out hjl (by show keyLt L'[j + 1] L'[j] = true; rw [← HS.out, ← HT.out]; exact HG.out)⟩
                    · rw [HS.out, HT.out]; exact str_swp (HBy.out.drewN _) j hjl
                    · exact ((HOy.out.drewN _).set_ _ _).set_ _ _
                  case measure => simp [intOf]
                · have hgt' : keyLt t s = false := by simpa using hgt
                  have HG := Lib.hid hgt'
                  have g1 : Op.bytesLess t.toList s.toList = false := hgt'
                  clear hgt hgt'
                  go_wp2
                  go_quiet (fail)
                  go_wp2
                  go_roundw
                  case rel => exact ⟨k + 1, L', by omega, by omega, by go_num, HBy.out, HOy.out.drewN _, insI_out HIy.out hjl (by show keyLt L'[j + 1] L'[j] = false; rw [← HS.out, ← HT.out]; exact HG.out)⟩
                  case measure => simp [intOf]; omega
          · go_wp2
            go_ret
            obtain ⟨hP, hS⟩ := insO_end HIz.out (by rw [HLn.out]; omega)
            refine ⟨.slice (some ⟨g, 0, none⟩) m cap, L, rfl, ⟨by simp, Or.inr ⟨g, cap, (L.map Value.string ++ rest).toArray, by rw [HLn.out], by omega, HBz.out, by rw [HLn.out]; omega, hcm, ?_, ?_⟩⟩, Only.ext HE.out HOz.out (by omega), fun s => (hP.mem_iff).trans (HKs.out s), strict_of hS (hP.nodup_iff.2 HN.out)⟩
            · have := HREST.out; have := HLn.out; simp; omega
            · simp
    · intro x c kl y ps w1 cnt1 hkey hlk hRv hat hrg1 hlt hg1 hs1 hen
      obtain ⟨s, hse, hkl⟩ := keyOf_str_inv Tryz.underlying9 hkey
      obtain rfl : x = s := by injection hse
      subst hkl
      have HR1 := Lib.hid hrg1; have HG1 := Lib.hid hg1
      have hlen : ks.length ≤ 1000000 := by omega
      have H1 := Lib.hid (World.ownsRow.kept HO.out hg1 (by rcases HO.out.2 with ⟨rfl, _⟩ | ⟨g, _, _, rfl, hg, _⟩; exact Or.inl rfl; exact Or.inr (by simp [Value.ownBlock]; omega)))
      have HLK := Lib.hid hlk
      have HHAS := Lib.hid (show has D (lk x) = true by
        cases e : has D (lk x)
        · have := hat (.held (.int .i64 1)); have h2 := hat (.held (.int .i64 2))
          rw [atKey_of_not_has e] at this h2; rw [← this] at h2; cases h2
        · rfl)
      clear hrg1 hg1 hkey hse hat hRv hlk
      have HS1 := Lib.hid hs1; clear hs1
      go_wp2_with (first | (at_builtin; refine wpList_append_own_at _ rfl (.tmp 13) (.tmp 15) 41 rfl (w.heap.size + 1) 9 i0 _ 1 16 Tryz.underlying41 hi hz0 hz1 hz2 rfl (by decide) u3 ks.length (ks.map Value.string) rfl (H1.out.alloc _) ⟨w1.heap.size, 0, none⟩ 1 1 [.string x] rfl rfl (cell_one_new _ _ _) (by simp [Value.oneCell']) (by unfold maxLen; omega) (by omega) (by have := HS1.out; simp; omega) ?_; intro v' w2 hown2 hgrow2 _ _; have R := Lib.hid (And.intro hown2 hgrow2); clear hown2 hgrow2))
      go_roundw
      case rel =>
        have hb1 : u3.ownBlock ≠ some b ∧ u3.ownBlock ≠ some w.heap.size := by
          rcases HO.out.2 with ⟨rfl, _⟩ | ⟨g, _, _, rfl, hg, _⟩
          · simp [Value.ownBlock]
          · simp [Value.ownBlock]; omega
        have hk2 := HR1.out.kept (World.grownBy.trans (World.grownBy_alloc w1 _ u3.ownBlock) R.out.2) (fun e => hb1.1 e.symm) (fun e => hb1.2 e.symm)
        have hE1 : Ext w (w1.alloc (.cells #[.string x] 9)) := (Only.ext HE.out HG1.out (Nat.le_refl _)).trans' (Ext.alloc' _ _)
        have hE2 : Ext w w2 := ext_grown hE1 (row_low (H1.out.alloc _) (Nat.le_succ _)) R.out.2
        refine ⟨_, cnt1, ks ++ [x], hk2, by simp; omega, ?_, hE2, ?_, ?_, ?_⟩
        · have := R.out.1; simpa using this
        · intro s
          rw [List.mem_append, HK.out s, List.mem_singleton]
          constructor
          · rintro (⟨h1, h2⟩ | rfl)
            · exact ⟨h1, by rw [h2]; rfl⟩
            · exact ⟨HHAS.out, by rw [WideAt.sameKey_self (show WideAt.IsKeyLit (lk s) from trivial)]; simp⟩
          · rintro ⟨h1, h2⟩
            by_cases e : s = x
            · exact Or.inr e
            · refine Or.inl ⟨h1, ?_⟩
              rw [sameKey_ne (fun h => e (lk_inj h))] at h2
              simpa using h2
        · rw [List.nodup_append]
          refine ⟨HN.out, by simp, fun a ha c hc e => ?_⟩
          rw [List.mem_singleton] at hc
          subst hc; subst e
          have := ((HK.out _).1 ha).2
          rw [HLK.out] at this; cases this
        · have := R.out.2.size; have := HS1.out; simp at *; omega
      case measure => rw [World.ranges.left_eq (HR1.out.kept (World.grownBy.trans (World.grownBy_alloc w1 _ u3.ownBlock) R.out.2) (by rcases HO.out.2 with ⟨rfl, _⟩ | ⟨g, _, _, rfl, hg, _⟩; simp [Value.ownBlock]; simp [Value.ownBlock]; omega) (by rcases HO.out.2 with ⟨rfl, _⟩ | ⟨g, _, _, rfl, hg, _⟩; simp [Value.ownBlock]; simp [Value.ownBlock]; omega)), HR.out.left_eq]; exact hlt
end Go.Proofs.YtagfbefgcijegaaGreatDoor
