/-
  The contracts of Coins.AmountOf, impl.AmountOf, impl.FindIn, and of the reference's SumOf.
  The contracts of removeZeroCoins, sanitizeCoins, MakeCoins, NewCoins, impl.NewOf.
  The reference's sets: its IsSum, IsSumSet; sums of sets.
  The contract of impl.NewOf; what makes a list a set.
  The contracts of the reference's SumErr and of impl.CoinsErr.
  The contracts of impl.About and of the reference's SumNegative.
-/
import Derived.Test.YtlpdhpfjcfihoaaGreatDoorGF
import Derived.Test.YtlpdhpfjcfihoaaGreatDoorGE
import Derived.BigQuiet
namespace Go.Proofs.YtlpdhpfjcfihoaaGreatDoor
open Go Go.RowKit

theorem strict_co {l : List Co} {m : List (ByteArray × Int)} (hv : l.map Co.val = m) (h : m.Pairwise fun a b => keyLt a.1 b.1 = true) : l.Pairwise fun a b => le (Co.s a) (Co.s b) := by
  rw [← hv, List.pairwise_map] at h
  exact h.imp fun h => le_of_lt h
theorem amt_none {l : List Co} {m : List (ByteArray × Int)} {d : ByteArray} (hv : l.map Co.val = m) (h : ∀ x ∈ l, x.s ≠ d) : totalP d m = 0 := by
  rw [← hv]
  refine totalP_none fun x hx => ?_
  obtain ⟨c, hc, rfl⟩ := List.mem_map.1 hx
  exact h c hc
theorem amt_some {l : List Co} {m : List (ByteArray × Int)} {d : ByteArray} {x : Co} (hv : l.map Co.val = m) (h : m.Pairwise fun a b => keyLt a.1 b.1 = true) (hx : x ∈ l) (hd : x.s = d) : totalP d m = x.z := by
  have := tot_get h (show x.val ∈ m by rw [← hv]; exact List.mem_map_of_mem hx)
  subst hd; exact this
theorem own_cap2 {w : World} {base n k : Nat} {E : TypeId} {v : Value} {xs : List Value} (h : w.ownsRow base E k v n xs) : ∃ A c, v = .slice A n c ∧ n ≤ c ∧ c ≤ 9223372036854775807 := by
  rcases h.2 with ⟨rfl, rfl⟩ | ⟨g, cap, _, rfl, _, _, hn, hm, _⟩
  · exact ⟨_, _, rfl, Nat.le_refl _, by decide⟩
  · exact ⟨_, _, rfl, hn, by unfold maxLen at hm; omega⟩

/-- The coin of a name in plain data, or none. -/
def RetFindIn (l : List (ByteArray × Int)) (d : ByteArray) (w : World) (e : Ending) (w' : World) : Prop :=
  ((e = .returned (.tuple #[.agg #[.string ⟨#[]⟩, .int .i64 0], .bool false]) ∧ ∀ x ∈ l, x.1 ≠ d) ∨ ∃ x ∈ l, x.1 = d ∧ e = .returned (.tuple #[.agg #[.string d, .int .i64 x.2], .bool true])) ∧ Ext w w'

end Go.Proofs.YtlpdhpfjcfihoaaGreatDoor

namespace Go.Proofs.YtlpdhpfjcfihoaaGreatDoor
open Go Go.RowKit

/-- Coins without those of nothing. -/
def nz (l : List Co) : List Co := l.filter fun x => decide (x.z ≠ 0)
/-- Coins in a row of the call's own handed back. -/
def RetOwn (L : List Co) (w : World) (e : Ending) (w' : World) : Prop := ∃ v, e = .returned v ∧ CoinsOwn w' w.heap.size v L ∧ Ext w w'
theorem sgn_zero (z : Int) : (sgn z == 0) = decide (z = 0) := by
  unfold sgn
  by_cases h1 : z < 0
  · rw [if_pos h1]; have : z ≠ 0 := by omega
    simp [this]
  · rw [if_neg h1]
    by_cases h2 : 0 < z
    · rw [if_pos h2]; have : z ≠ 0 := by omega
      simp [this]
    · rw [if_neg h2]; have : z = 0 := by omega
      simp [this]

/-- Sorted, and without coins of nothing. -/
def RetSan (l : List Co) (w : World) (e : Ending) (w' : World) : Prop := ∃ v L, e = .returned v ∧ CoinsOwn w' w.heap.size v L ∧ L.Perm (nz l) ∧ (L.Pairwise fun a b => le (Co.s a) (Co.s b)) ∧ Ext w w'

/-- A set, or that it is none. -/
def RetMakeC (l : List Co) (w : World) (e : Ending) (w' : World) : Prop :=
  ∃ L : List Co, L.Perm (nz l) ∧ (L.Pairwise fun a b => le (Co.s a) (Co.s b)) ∧ Ext w w' ∧ ((ErrIs (L.map Co.val) none ∧ ∃ v, e = .returned (.tuple #[v, .nilIface]) ∧ CoinsOwn w' w.heap.size v L) ∨ (∃ t, ErrIs (L.map Co.val) (some t)) ∧ ∃ b, e = .returned (.tuple #[.slice none 0 0, .iface 181 (.pointer (some ⟨b, 0, none⟩))]))
/-- "invalid coin set". -/
abbrev invSet : ByteArray := ⟨#[105, 110, 118, 97, 108, 105, 100, 32, 99, 111, 105, 110, 32, 115, 101, 116]⟩

end Go.Proofs.YtlpdhpfjcfihoaaGreatDoor

namespace Go.Proofs.YtlpdhpfjcfihoaaGreatDoor
open Go Go.RowKit

/-- Of ascending denominations, each once, with amounts above 0. -/
def isB (l : List (ByteArray × Int)) : Bool := decide ((∀ x ∈ l, denomB x.1 = true ∧ 0 < x.2) ∧ l.Pairwise fun a b => keyLt a.1 b.1 = true)
def setB (l : List (ByteArray × Int)) : Bool := listB l && isB l
theorem setB_list {l : List (ByteArray × Int)} (h : setB l = true) : listB l = true := by unfold setB at h; simp at h; exact h.1
theorem setB_strict {l : List (ByteArray × Int)} (h : setB l = true) : l.Pairwise fun a b => keyLt a.1 b.1 = true := by
  unfold setB at h; rw [Bool.and_eq_true] at h
  have := h.2; unfold isB at this; rw [decide_eq_true_iff] at this; exact this.2
theorem setB_pos {l : List (ByteArray × Int)} (h : setB l = true) : ∀ x ∈ l, 0 < x.2 := by
  unfold setB at h; rw [Bool.and_eq_true] at h
  have := h.2; unfold isB at this; rw [decide_eq_true_iff] at this; exact fun x hx => (this.1 x hx).2
theorem setB_sorted {l : List (ByteArray × Int)} (h : setB l = true) : sortedB (l.map Prod.fst) = true := strict_sorted (setB_strict h)
theorem add_ok {l m r : List (ByteArray × Int)} (h : IsAdd (l ++ m) r) (hl : l.length ≤ 8) (hm : m.length ≤ 8) (b1 : ∀ x ∈ l, denomB x.1 = true ∧ -1099511627776 ≤ x.2 ∧ x.2 ≤ 1099511627776) (b2 : ∀ x ∈ m, denomB x.1 = true ∧ -1099511627776 ≤ x.2 ∧ x.2 ≤ 1099511627776)
    (s1 : ∀ x ∈ l, x.1.size ≤ maxLen) (s2 : ∀ x ∈ m, x.1.size ≤ maxLen) : (∀ x ∈ r, x.2.natAbs ≤ 1125899906842624) ∧ (∀ x ∈ r, x.1.size ≤ maxLen) ∧ sortedB (r.map Prod.fst) = true := by
  refine ⟨fun x hx => ?_, isAdd_size h (both s1 s2), isAdd_sorted h⟩
  have h1 := isAdd_bound (m := 1099511627776) h (both (fun x hx => by have := b1 x hx; omega) (fun x hx => by have := b2 x hx; omega)) x hx
  rw [List.length_append] at h1
  omega
theorem add_comm2 {l m r r' : List (ByteArray × Int)} (h : IsAdd (l ++ m) r) (h' : IsAdd (m ++ l) r') : r = r' :=
  sums_unique (isAdd_sums h) (isAdd_sums h') fun s => by rw [totalP_append, totalP_append]; omega
theorem add_assoc2 {a b c ab bc x y : List (ByteArray × Int)} (h1 : IsAdd (a ++ b) ab) (h2 : IsAdd (ab ++ c) x) (h3 : IsAdd (b ++ c) bc) (h4 : IsAdd (a ++ bc) y) : x = y :=
  sums_unique (isAdd_sums h2) (isAdd_sums h4) fun s => by
    rw [totalP_append, totalP_append, (isAdd_sums h1).2.2, (isAdd_sums h3).2.2, totalP_append, totalP_append]; omega
theorem add_all {a b c ab x t : List (ByteArray × Int)} (h1 : IsAdd (a ++ b) ab) (h2 : IsAdd (ab ++ c) x) (h3 : IsAdd (a ++ b ++ c) t) : x = t :=
  sums_unique (isAdd_sums h2) (isAdd_sums h3) fun s => by
    rw [totalP_append, (isAdd_sums h1).2.2, totalP_append _ (a ++ b) c]
/-- The first k are a set. -/
def IsI (l : List (ByteArray × Int)) (k : Nat) : Prop := (∀ j, (hj : j < l.length) → j < k → denomB l[j].1 = true ∧ 0 < l[j].2) ∧ ∀ i j, (hj : j < l.length) → (h : i < j) → j < k → keyLt l[i].1 l[j].1 = true
theorem isI_end {l : List (ByteArray × Int)} (h : IsI l l.length) : isB l = true := by
  unfold isB; rw [decide_eq_true_iff, List.pairwise_iff_getElem]
  refine ⟨fun x hx => ?_, fun i j hi hj hij => h.2 i j hj hij hj⟩
  obtain ⟨j, hj, rfl⟩ := List.getElem_of_mem hx
  exact h.1 j hj hj
theorem isB_bad {l : List (ByteArray × Int)} {k : Nat} (hk : k < l.length) (h : ¬ (denomB l[k].1 = true ∧ 0 < l[k].2)) : isB l = false := by
  unfold isB; rw [decide_eq_false_iff_not]; rintro ⟨h1, _⟩; exact h (h1 _ (List.getElem_mem hk))
theorem isB_bad2 {l : List (ByteArray × Int)} {i j : Nat} (hj : j < l.length) (hij : i < j) (h : keyLt l[i].1 l[j].1 = false) : isB l = false := by
  unfold isB; rw [decide_eq_false_iff_not, List.pairwise_iff_getElem]; rintro ⟨_, h2⟩
  rw [h2 i j (by omega) hj hij] at h; cases h
theorem isI_step {l : List (ByteArray × Int)} {k : Nat} (h : IsI l k) (hk : k < l.length) (h1 : denomB l[k].1 = true) (h2 : 0 < l[k].2) (h3 : ∀ m, (hm : m + 1 = k) → keyLt l[m].1 l[k].1 = true) : IsI l (k + 1) := by
  refine ⟨fun j hj hjk => ?_, fun i j hj hij hjk => ?_⟩
  · by_cases e : j = k
    · subst e; exact ⟨h1, h2⟩
    · exact h.1 j hj (by omega)
  · by_cases e : j = k
    · subst e
      by_cases e2 : i + 1 = j
      · exact h3 i e2
      · obtain ⟨m, rfl⟩ : ∃ m, j = m + 1 := ⟨j - 1, by omega⟩
        exact keyLt_trans (h.2 i m (by omega) (by omega) (by omega)) (h3 m rfl)
    · exact h.2 i j hj hij (by omega)
theorem ext_ad (w : World) (o : Obj) (n : Nat) : Ext w ((w.alloc o).drewN n) := (Ext.alloc' _ _).trans' (Ext.drewN' _ _)

set_option maxRecDepth 100000 in
set_option maxHeartbeats 2000000 in
theorem sIsSum (A : Option Addr) (n c : Nat) (l : List (ByteArray × Int)) (w : World) (hl : l.length = n) (hf : Fits n l) (h : PlainAt w A l) :
    Calls Tryz.prog 63 #[.slice A n c] w (RetE (.bool (isB l)) w) := by
  obtain ⟨hn, hsz⟩ := hf
  have HL := Lib.hid hl; have HP := Lib.hid h; have HSZ := Lib.hid hsz
  clear hl h hsz
  go_enter Tryz.func63, Tryz.ntmps63
  go_wp2
  go_loopw [7] (fun i wr => ∃ (k : Nat), k ≤ n ∧ i = .int .i64 k ∧ IsI l k ∧ Ext w wr) (fun i _ => n - (intOf i).toNat)
  case atStart => exact ⟨0, Nat.zero_le _, rfl, ⟨fun j _ h => absurd h (Nat.not_lt_zero _), fun i j _ _ h => absurd h (Nat.not_lt_zero _)⟩, Ext.refl _⟩
  case round =>
    obtain ⟨k, hk, rfl, hq, hE⟩ := hrel
    have HQ := Lib.hid hq; have HE := Lib.hid hE
    clear hq hE
    by_cases hlt : k < n
    · have hkl : k < l.length := by rw [HL.out]; exact hlt
      obtain ⟨s, hs⟩ : ∃ s, s = l[k].1 := ⟨_, rfl⟩
      obtain ⟨z, hzz⟩ : ∃ z, z = l[k].2 := ⟨_, rfl⟩
      obtain ⟨g, o, hA, hc⟩ := HP.out (by intro e; have := congrArg List.length e; simp at this; rw [this] at hkl; simp at hkl)
      subst hA
      have HC := Lib.hid hc
      have hck := hc k (by simpa using hkl)
      have cs0 : wr.cell? ⟨g, o + k * 2, none⟩ = some (.string s) := HE.out.cell' (by rw [hck.1, hs]; simp [plain])
      have cs1 : wr.cell? ⟨g, o + k * 2 + 1, none⟩ = some (.int .i64 z) := HE.out.cell' (by rw [hck.2, hzz]; simp [plain])
      have HD := Lib.hid (fun W : World => sDenom s W (by rw [hs]; have := HSZ.out _ (List.getElem_mem hkl); omega))
      have HS := Lib.hid hs; have HZ := Lib.hid hzz; clear hs hzz hck hc
      obtain ⟨r, hr⟩ : ∃ r, r = denomB s := ⟨_, rfl⟩
      rw [← hr] at HD
      have HR := Lib.hid hr; clear hr
      cases r
      · have F := Lib.hid (isB_bad hkl (by rw [← HS.out, ← HR.out]; simp))
        go_wp2
        go_quiet ((go_at_call 108; exact Calls.quiet_of_same (HD.out _)))
        go_wp2
        go_ret
        rw [F.out]; exact ⟨rfl, HE.out.trans' (ext_ad _ _ _)⟩
      · by_cases hz1 : z ≤ 0
        · have F := Lib.hid (isB_bad hkl (by rw [← HS.out, ← HZ.out, ← HR.out]; omega))
          have d1 : decide (z ≤ 0) = true := by simpa using hz1
          go_wp2
          go_quiet ((go_at_call 108; exact Calls.quiet_of_same (HD.out _)))
          go_wp2
          go_ret
          rw [F.out]; exact ⟨rfl, HE.out.trans' (ext_ad _ _ _)⟩
        · have d1 : decide (z ≤ 0) = false := by simpa using hz1
          rcases k with _ | m
          · have ST := Lib.hid (isI_step HQ.out hkl (by rw [← HS.out]; exact HR.out.symm) (by rw [← HZ.out]; omega) (fun m hm => absurd hm (by omega)))
            have cs0' : wr.cell? ⟨g, o, none⟩ = some (.string s) := by simpa using cs0
            have cs1' : wr.cell? ⟨g, o + 1, none⟩ = some (.int .i64 z) := by simpa using cs1
            clear cs0 cs1
            go_wp2
            go_quiet ((go_at_call 108; exact Calls.quiet_of_same (HD.out _)))
            go_wp2
            go_roundw
            case rel => exact ⟨0 + 1, by omega, by go_num, ST.out, HE.out.trans' (ext_ad _ _ _)⟩
            case measure => simp [intOf]; omega
          · obtain ⟨t, ht⟩ : ∃ t, t = l[m].1 := ⟨_, rfl⟩
            have ct0 : wr.cell? ⟨g, o + m * 2, none⟩ = some (.string t) := HE.out.cell' (by rw [(HC.out m (by simp; omega)).1, ht]; simp [plain])
            have HT := Lib.hid ht; clear ht
            have gl := cell_lt ct0
            have b0 : (0 : Int) ≤ (m : Int) := by omega
            have hm5 : IntKind.i64.wrap (m : Int) = (m : Int) := by rw [IntKind.wrap_i64]; omega
            have b1 : (m : Int) < (n : Int) := by omega
            cases hlt3 : keyLt t s
            · have F := Lib.hid (isB_bad2 hkl (Nat.lt_succ_self m) (by rw [← HT.out, ← HS.out]; exact hlt3))
              have hb : Op.bytesLess t.toList s.toList = false := hlt3
              clear hlt3
              go_wp2
              go_quiet ((go_at_call 108; exact Calls.quiet_of_same (HD.out _)))
              go_wp2
              go_ret
              rw [F.out]; exact ⟨rfl, HE.out.trans' (ext_ad _ _ _)⟩
            · have h3 : ∀ m', (hm : m' + 1 = m + 1) → keyLt (l[m']'(by omega)).1 l[m + 1].1 = true := by
                intro m' hm
                obtain rfl : m' = m := by omega
                rw [← HT.out, ← HS.out]; exact hlt3
              have ST := Lib.hid (isI_step HQ.out hkl (by rw [← HS.out]; exact HR.out.symm) (by rw [← HZ.out]; omega) h3)
              clear h3
              have hb : Op.bytesLess t.toList s.toList = true := hlt3
              clear hlt3
              go_wp2
              go_quiet ((go_at_call 108; exact Calls.quiet_of_same (HD.out _)))
              go_wp2
              go_roundw
              case rel => exact ⟨m + 1 + 1, by omega, by go_num, ST.out, HE.out.trans' (ext_ad _ _ _)⟩
              case measure => simp [intOf]; omega
    · obtain rfl : k = n := by omega
      have F := Lib.hid (isI_end (l := l) (by rw [HL.out]; exact HQ.out))
      go_wp2
      go_ret
      rw [F.out]; exact ⟨rfl, HE.out⟩

set_option maxRecDepth 100000 in
theorem sIsSumSet (A : Option Addr) (n c : Nat) (l : List (ByteArray × Int)) (w : World) (hl : l.length = n) (hf : Fits n l) (h : PlainAt w A l) :
    Calls Tryz.prog 15 #[.slice A n c] w (RetE (.bool (setB l)) w) := by
  have H1 := Lib.hid (sIsSumList A n c l w hl hf h)
  have H2 := Lib.hid (fun (W : World) (e : Ext w W) => sIsSum A n c l W hl hf (h.ext e))
  clear hl hf h
  obtain ⟨b1, hb1⟩ : ∃ b, b = listB l := ⟨_, rfl⟩
  obtain ⟨b2, hb2⟩ : ∃ b, b = isB l := ⟨_, rfl⟩
  have F := Lib.hid (show setB l = (b1 && b2) by unfold setB; rw [hb1, hb2])
  rw [← hb1] at H1; rw [← hb2] at H2
  clear hb1 hb2
  cases b1
  · go_enter Tryz.func15, Tryz.ntmps15
    go_wp2_with (first | (go_at_call 62; (with_reducible refine H1.out.mono ?_); rintro e w1 ⟨rfl, hE⟩; have HE1 := Lib.hid hE; clear hE))
    go_ret
    rw [F.out]; exact ⟨rfl, HE1.out⟩
  · go_enter Tryz.func15, Tryz.ntmps15
    go_wp2_with (first | (go_at_call 62; (with_reducible refine H1.out.mono ?_); rintro e w1 ⟨rfl, hE⟩; have HE1 := Lib.hid hE; clear hE) | (go_at_call 63; (with_reducible refine (H2.out _ HE1.out).mono ?_); rintro e w2 ⟨rfl, hE⟩; have HE2 := Lib.hid hE; clear hE))
    go_ret
    rw [F.out]; exact ⟨by cases b2 <;> rfl, HE1.out.trans' HE2.out⟩
end Go.Proofs.YtlpdhpfjcfihoaaGreatDoor

namespace Go.Proofs.YtlpdhpfjcfihoaaGreatDoor
open Go Go.RowKit

/-- New coins in plain data, or that they are no set. -/
def RetNewOf (l : List (ByteArray × Int)) (w : World) (e : Ending) (w' : World) : Prop :=
  ∃ r, r.Perm (l.filter fun x => x.2 ≠ 0) ∧ (r.Pairwise fun a b => le a.1 b.1) ∧ Ext w w' ∧ ((ErrIs r none ∧ ∃ v, e = .returned (.tuple #[v, .bool true]) ∧ PlainOwn w' w.heap.size 31 v r) ∨ (∃ t, ErrIs r (some t)) ∧ e = .returned (.tuple #[.slice none 0 0, .bool false]))
theorem nz_val {cs : List Co} {l : List (ByteArray × Int)} (h : cs.map Co.val = l) : (nz cs).map Co.val = l.filter fun x => x.2 ≠ 0 := by
  rw [← h]; unfold nz; rw [List.filter_map]; rfl
theorem size_val {cs : List Co} {l : List (ByteArray × Int)} (h : cs.map Co.val = l) (hs : ∀ x ∈ l, x.1.size ≤ maxLen) : ∀ x ∈ cs, x.s.size ≤ 9223372036854775807 := by
  intro x hx
  have := hs x.val (by rw [← h]; exact List.mem_map_of_mem hx)
  unfold maxLen at this
  exact Nat.le_trans this (by decide)

/-- A list is a set just if nothing is wrong with it. -/
theorem isB_err {l : List (ByteArray × Int)} : ErrIs l none ↔ isB l = true := by
  constructor
  · intro h
    have hz : ∀ j, (hj : j < l.length) → denomB l[j].1 = true ∧ 0 < l[j].2 := by
      intro j hj
      have := h j
      unfold errAt at this
      rw [List.getElem?_eq_getElem hj] at this
      simp only at this
      unfold errOne at this
      split at this
      · cases this
      · rename_i hd
        refine ⟨by simpa using hd, ?_⟩
        split at this
        · split at this
          · cases this
          · split at this
            · cases this
            · split at this
              · cases this
              · omega
        · split at this
          · cases this
          · omega
    have hs : ∀ k, (hk : k + 1 < l.length) → keyLt l[k].1 l[k + 1].1 = true := by
      intro k hk
      have := h (k + 1)
      rw [errAt_succ hk] at this
      unfold errOne at this
      split at this
      · cases this
      · simp only at this
        split at this
        · cases this
        · rename_i h1
          split at this
          · cases this
          · rename_i h2
            exact key_lt_of_le_ne (by unfold le; simpa using h1) (fun e => h2 e.symm)
    have : ∀ k, k ≤ l.length → IsI l k := by
      intro k
      induction k with
      | zero => exact fun _ => ⟨fun j _ h => absurd h (Nat.not_lt_zero _), fun i j _ _ h => absurd h (Nat.not_lt_zero _)⟩
      | succ k ih => exact fun hk => isI_step (ih (by omega)) (by omega) (hz k (by omega)).1 (hz k (by omega)).2 (fun m hm => by subst hm; exact hs m (by omega))
    exact isI_end (this _ (Nat.le_refl _))
  · intro h j
    unfold isB at h; rw [decide_eq_true_iff, List.pairwise_iff_getElem] at h
    rcases Nat.lt_or_ge j l.length with hj | hj
    · have hx := h.1 _ (List.getElem_mem hj)
      cases j with
      | zero => rw [errAt_zero hj]; unfold errOne; rw [if_neg (by rw [hx.1]; simp)]; exact if_neg (by omega)
      | succ k =>
        have hlt := h.2 k (k + 1) (by omega) hj (by omega)
        rw [errAt_succ hj]; unfold errOne; rw [if_neg (by rw [hx.1]; simp)]
        show (if keyLt _ _ = true then _ else _) = _
        rw [if_neg (by rw [keyLt_asymm hlt]; simp), if_neg (fun e => by rw [← e, keyLt_irrefl] at hlt; cases hlt), if_neg (by omega)]
    · exact errAt_out hj
theorem isNone_isB {l : List (ByteArray × Int)} {o : Option ByteArray} (h : ErrIs l o) : o.isNone = isB l := by
  cases o with
  | none => exact (isB_err.1 h).symm
  | some t =>
    cases hb : isB l
    · rfl
    · have := errIs_unique h (isB_err.2 hb); cases this
theorem isB_perm {r r' : List (ByteArray × Int)} (hp : r.Perm r') (hs : r.Pairwise fun a b => le a.1 b.1) (hs' : r'.Pairwise fun a b => le a.1 b.1) : isB r = isB r' := by
  have key : ∀ {a b : List (ByteArray × Int)}, a.Perm b → (b.Pairwise fun a b => le a.1 b.1) → isB a = true → isB b = true := by
    intro a b hp hs h
    unfold isB at h ⊢
    rw [decide_eq_true_iff] at h ⊢
    refine ⟨fun x hx => h.1 x (hp.mem_iff.2 hx), once_strict hs (hp.pairwise (h.2.imp fun h e => by rw [e, keyLt_irrefl] at h; cases h) fun h e => h e.symm)⟩
  cases h : isB r
  · cases h' : isB r'
    · rfl
    · rw [key hp.symm hs h'] at h; cases h
  · exact (key hp hs' h).symm
theorem isB_strict {l : List (ByteArray × Int)} (h : isB l = true) : l.Pairwise fun a b => keyLt a.1 b.1 = true := by
  unfold isB at h; rw [decide_eq_true_iff] at h; exact h.2
theorem fits_of {n : Nat} {l r : List (ByteArray × Int)} (h : Fits n l) (hr : ∀ x ∈ r, x ∈ l) (hl : r.length ≤ 2147483647) : Fits r.length r := ⟨hl, fun x hx => h.2 x (hr x hx)⟩
/-- NewOf, as the law asks: a set and the sorted list itself; or none. -/
theorem newof_fact {l r' : List (ByteArray × Int)} {w w' : World} {e : Ending} (h : RetNewOf l w e w') (hp : r'.Perm (l.filter fun x => x.2 ≠ 0)) (hs : r'.Pairwise fun a b => le a.1 b.1) :
    Ext w w' ∧ ((isB r' = true ∧ ∃ v, e = .returned (.tuple #[v, .bool true]) ∧ PlainOwn w' w.heap.size 31 v r') ∨ isB r' = false ∧ e = .returned (.tuple #[.slice none 0 0, .bool false])) := by
  obtain ⟨r, hp1, hs1, hE, h⟩ := h
  have hb := isB_perm (hp1.trans hp.symm) hs1 hs
  refine ⟨hE, ?_⟩
  rcases h with ⟨ho, v, rfl, hv⟩ | ⟨⟨t, ho⟩, rfl⟩
  · have hbr := isB_err.1 ho
    have : r = r' := asc_unique (key := Prod.fst) (hp1.trans hp.symm) hs1 (isB_strict (hb ▸ hbr))
    subst this
    exact Or.inl ⟨hbr, v, rfl, hv⟩
  · refine Or.inr ⟨?_, rfl⟩
    rw [← hb]
    cases hc : isB r
    · rfl
    · have := errIs_unique (isB_err.2 hc) ho; cases this
end Go.Proofs.YtlpdhpfjcfihoaaGreatDoor

namespace Go.Proofs.YtlpdhpfjcfihoaaGreatDoor
open Go Go.RowKit

theorem ext_ad0 (w : World) (o : Obj) : Ext w (w.alloc o) := Ext.alloc' _ _
theorem ext_ad1 (w : World) (o : Obj) (n : Nat) : Ext w ((w.alloc o).drewN n) := (Ext.alloc' _ _).trans' (Ext.drewN' _ _)
theorem ext_ad2 (w : World) (o : Obj) (n m : Nat) : Ext w (((w.alloc o).drewN n).drewN m) := ((Ext.alloc' _ _).trans' (Ext.drewN' _ _)).trans' (Ext.drewN' _ _)
/-- The words of the first thing that is wrong. -/
def RetWords (l : List (ByteArray × Int)) (w : World) (e : Ending) (w' : World) : Prop := ∃ o, ErrIs l o ∧ e = .returned (.string (o.getD ⟨#[]⟩)) ∧ Ext w w'
theorem errs_some {l : List (ByteArray × Int)} {k : Nat} {t : ByteArray} (h : ∀ j, j < k → errAt l j = none) (e : errAt l k = some t) : ErrIs l (some t) := ⟨k, e, h⟩
theorem errs_step {l : List (ByteArray × Int)} {k : Nat} (h : ∀ j, j < k → errAt l j = none) (e : errAt l k = none) : ∀ j, j < k + 1 → errAt l j = none := fun j hj => by
  by_cases f : j = k
  · subst f; exact e
  · exact h j (by omega)

end Go.Proofs.YtlpdhpfjcfihoaaGreatDoor

namespace Go.Proofs.YtlpdhpfjcfihoaaGreatDoor
open Go Go.RowKit

def zeroB (l : List (ByteArray × Int)) : Bool := l.all fun x => decide (x.2 = 0)
def posB (l : List (ByteArray × Int)) : Bool := !l.isEmpty && l.all fun x => decide (0 < x.2)
def negB (l : List (ByteArray × Int)) : Bool := l.any fun x => decide (x.2 < 0)
theorem sgn_neg (z : Int) : (sgn z == -1) = decide (z < 0) := by
  unfold sgn
  by_cases h1 : z < 0
  · rw [if_pos h1]; simp [h1]
  · rw [if_neg h1]
    by_cases h2 : 0 < z
    · rw [if_pos h2]; simp [h1]
    · rw [if_neg h2]; simp [h1]
theorem sgn_zero' (z : Int) : (sgn z == 0) = decide (z = 0) := by
  unfold sgn
  by_cases h1 : z < 0
  · rw [if_pos h1]; have : z ≠ 0 := by omega
    simp [this]
  · rw [if_neg h1]
    by_cases h2 : 0 < z
    · rw [if_pos h2]; have : z ≠ 0 := by omega
      simp [this]
    · rw [if_neg h2]; have : z = 0 := by omega
      simp [this]
theorem zero_val {cs : List Co} {l : List (ByteArray × Int)} (h : cs.map Co.val = l) : (cs.all fun x => sgn x.z == 0) = zeroB l := by
  rw [← h]; unfold zeroB; rw [List.all_map]; congr 1; funext x; rw [sgn_zero']; rfl
theorem pos_val {cs : List Co} {l : List (ByteArray × Int)} (h : cs.map Co.val = l) : (!cs.isEmpty && cs.all fun x => sgn x.z == 1) = posB l := by
  rw [← h]; unfold posB; rw [List.all_map, List.isEmpty_map]; congr 2; funext x; rw [sgn_pos]; rfl
theorem neg_val {cs : List Co} {l : List (ByteArray × Int)} (h : cs.map Co.val = l) : (cs.any fun x => sgn x.z == -1) = negB l := by
  rw [← h]; unfold negB; rw [List.any_map]; congr 1; funext x; rw [sgn_neg]; rfl

theorem errOne_ne {p : Option ByteArray} {x : ByteArray × Int} {t : ByteArray} (h : errOne p x = some t) : (t.toList == (⟨#[]⟩ : ByteArray).toList) = false := by
  have key : ∀ u : ByteArray, u ≠ ⟨#[]⟩ → (u.toList == (⟨#[]⟩ : ByteArray).toList) = false := fun u hu => by rw [key_beq]; simpa using hu
  unfold errOne at h
  split at h
  · injection h with h; subst h; exact key _ (by decide)
  · split at h
    · split at h
      · injection h with h; subst h; exact key _ (by decide)
      · split at h
        · injection h with h; subst h; exact key _ (by decide)
        · split at h
          · injection h with h; subst h; exact key _ (by decide)
          · cases h
    · split at h
      · injection h with h; subst h; exact key _ (by decide)
      · cases h
theorem err_ne {l : List (ByteArray × Int)} {t : ByteArray} (h : ErrIs l (some t)) : (t.toList == (⟨#[]⟩ : ByteArray).toList) = false := by
  obtain ⟨j, hj, _⟩ := h
  unfold errAt at hj
  split at hj
  · cases hj
  · exact errOne_ne hj
theorem err_ne2 {l : List (ByteArray × Int)} {t : ByteArray} (h : ErrIs l (some t)) : ¬ t.toList = [] ∧ t.toList.isEmpty = false := by
  have h1 : ¬ t.toList = [] := by
    intro e
    have := err_ne h
    rw [e, Lib.toList_data] at this
    simp at this
  exact ⟨h1, by cases h2 : t.toList with | nil => exact absurd h2 h1 | cons a r => rfl⟩
/-- What a list tells of itself. -/
def RetFacts (l : List (ByteArray × Int)) (w : World) (e : Ending) (w' : World) : Prop :=
  ∃ o, ErrIs l o ∧ e = .returned (.agg #[.bool o.isNone, .bool (zeroB l), .bool (decide (l.length = 0)), .bool (posB l), .bool (negB l)]) ∧ Ext w w'

end Go.Proofs.YtlpdhpfjcfihoaaGreatDoor
