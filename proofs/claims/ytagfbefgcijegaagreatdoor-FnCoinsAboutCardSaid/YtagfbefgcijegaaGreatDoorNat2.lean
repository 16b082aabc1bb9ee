/-
  Contracts of nat's add and sub, for numbers of one length.
-/
import Derived.Test.YtagfbefgcijegaaGreatDoorNat
import Derived.Deep.RegionHeld3
namespace Go.Proofs.YtagfbefgcijegaaGreatDoor
open Go Go.RowKit

theorem words_none (w : World) : Words w none [] := ⟨by simp, fun h => absurd rfl h⟩
theorem norm_nil : Norm [] := by intro y hy; simp at hy

theorem sumCells {g n : Nat} {w1 : World} {E : TypeId} {cs : List Value} {ds : List Nat} {c : Nat} (hdl : ds.length = n) (hb : Blk w1 g E (putw cs ds)) (hn : n < cs.length) :
    ∀ j (h : j < (ds ++ [c]).length), (w1.setCell ⟨g, n, none⟩ (.int .u64 (c : Int))).cell? ⟨g, 0 + j, none⟩ = some (.int .u64 ((ds ++ [c])[j] : Int)) := fun j h => by
  subst hdl
  have := hb.set_ ds.length (wv c)
  rw [putw_set _ _ _ hn] at this
  rw [Nat.zero_add]
  exact this.wcell j h

set_option maxRecDepth 100000 in
set_option maxHeartbeats 400000 in
theorem natAdd_eq (A B : Option Addr) (ca cb : Nat) (xs ys : List Nat) (n : Nat) (w : World) (hx : Words w A xs) (hy : Words w B ys) (hxl : xs.length = n) (hyl : ys.length = n) (h0 : 0 < n) (hn : n ≤ 100000) (hca : n ≤ ca) (hcb : n ≤ cb) :
    Calls Tryz.prog 198 #[.slice none 0 0, .slice A n ca, .slice B n cb] w (RetNat (natOf xs + natOf ys) w) := by
  obtain ⟨bx, ox, rfl, hxc⟩ := hx.get (by intro h; subst h; simp at hxl; omega)
  obtain ⟨by_, oy, rfl, hyc⟩ := hy.get (by intro h; subst h; simp at hyl; omega)
  have hbx : bx < w.heap.size := cell_lt (hxc 0 (by omega))
  have hby : by_ < w.heap.size := cell_lt (hyc 0 (by omega))
  have HXL := Lib.hid hxl; have HYL := Lib.hid hyl; have HX := Lib.hid hx; have HY := Lib.hid hy; have HXC := Lib.hid hxc; have HYC := Lib.hid hyc
  clear hxl hyl hx hy hxc hyc
  have e0 : ((n : Int) == 0) = false := by simp; omega
  go_enter Tryz.func198, Tryz.ntmps198
  go_wp2_with (first | (go_at_call 209; refine (natMake (n + 1) _ (by omega) (by omega)).mono ?_; rintro e w' ⟨c', hc', rfl, rfl⟩))
  have hblk := Lib.hid (blkMake w c' (.int .u64 0) 138)
  have i1 : (n : Int) ≤ (c' : Int) := by omega
  have i2 : (n : Int) ≤ (ca : Int) := by omega
  have i3 : (n : Int) ≤ (cb : Int) := by omega
  go_region_held3 (fun _ => True) (first | exact trivial) (first | (go_at_call 210; refine (addVV w.heap.size c' bx ox ca by_ oy cb 138 (List.replicate c' (.int .u64 0)) xs ys n _ (by omega) (by exact hblk.out) (by simp; omega) HXL.out HYL.out HX.out.1 HY.out.1 (by omega) (by omega) (by exact fun j h => cell_old _ (HXC.out j h)) (by exact fun j h => cell_old _ (HYC.out j h))).mono ?_; rintro e w1 ⟨ds, c, rfl, hc1, hr⟩; have HR := Lib.hid hr; clear hr; obtain ⟨old, hold⟩ := HR.out.2.2.2.1.old n (by rw [putw_length _ _ (by rw [HR.out.1]; simp; omega)]; simp; omega); have hfz := HR.out.2.2.2.1.frozen n; simp only [wv]))
  go_wp2_with (first | (go_at_call 212; refine (natNorm w.heap.size 0 c' (ds ++ [c]) (n + 1) _ (by rw [List.length_append, HR.out.1]; rfl) (by omega) hc' (by exact sumCells HR.out.1 HR.out.2.2.2.1 (by rw [List.length_replicate]; omega))).mono ?_; rintro e w' ⟨es, rfl, rfl, hes⟩; have HE := Lib.hid hes; clear hes))
  go_ret
  obtain ⟨het, heN, hev⟩ := HE.out
  obtain ⟨hdl, hdb, hsum, hblk1, honly⟩ := HR.out
  have hb2 : Blk (w1.setCell ⟨w.heap.size, n, none⟩ (wv c)) w.heap.size 138 (putw (List.replicate c' (.int .u64 0)) (ds ++ [c])) := by
    have := hblk1.set_ n (wv c)
    rwa [← hdl, putw_set _ _ _ (by rw [hdl]; simp; omega), hdl] at this
  refine ⟨_, c', es, rfl, ?_, ⟨?_, fun _ => ⟨w.heap.size, 0, rfl, ⟨_, hb2⟩, ?_⟩⟩, heN, ?_, ?_⟩
  · have := congrArg List.length het; simp only [List.length_take, List.length_append, hdl, List.length_cons, List.length_nil] at this; omega
  · intro x hx
    rw [het] at hx
    rcases List.mem_append.1 (List.mem_of_mem_take hx) with h | h
    · exact hdb x h
    · simp at h; subst h; unfold B64; omega
  · intro j hj
    obtain ⟨hj', e1⟩ := take_getElem het j hj
    rw [e1, Nat.zero_add]
    exact hb2.wcell j _
  · rw [hev, natOf_snoc, hdl, ← hsum, Nat.mul_comm]
  · exact Only.ext (Below.drew (Ext.alloc' _ _)) ((honly.set_ n (wv c))) (Nat.le_refl _)
theorem noBorrow {ds xs ys : List Nat} {n c : Nat} (hl : ds.length = n) (hb : ∀ d ∈ ds, d < B64) (h : natOf ds + natOf ys = natOf xs + c * B64 ^ n) (hge : natOf ys ≤ natOf xs) (hc : c ≤ 1) : c = 0 := by
  have := natOf_lt ds hb
  rw [hl] at this
  rcases Nat.le_one_iff_eq_zero_or_eq_one.1 hc with rfl | rfl
  · rfl
  · omega

set_option maxRecDepth 100000 in
set_option maxHeartbeats 400000 in
theorem natSub_eq (A B : Option Addr) (ca cb : Nat) (xs ys : List Nat) (n : Nat) (w : World) (hx : Words w A xs) (hy : Words w B ys) (hxl : xs.length = n) (hyl : ys.length = n) (h0 : 0 < n) (hn : n ≤ 100000) (hca : n ≤ ca) (hcb : n ≤ cb) (hge : natOf ys ≤ natOf xs) :
    Calls Tryz.prog 199 #[.slice none 0 0, .slice A n ca, .slice B n cb] w (RetNat (natOf xs - natOf ys) w) := by
  obtain ⟨bx, ox, rfl, hxc⟩ := hx.get (by intro h; subst h; simp at hxl; omega)
  obtain ⟨by_, oy, rfl, hyc⟩ := hy.get (by intro h; subst h; simp at hyl; omega)
  have hbx : bx < w.heap.size := cell_lt (hxc 0 (by omega))
  have hby : by_ < w.heap.size := cell_lt (hyc 0 (by omega))
  have HXL := Lib.hid hxl; have HYL := Lib.hid hyl; have HX := Lib.hid hx; have HY := Lib.hid hy; have HXC := Lib.hid hxc; have HYC := Lib.hid hyc
  clear hxl hyl hx hy hxc hyc
  have e0 : ((n : Int) == 0) = false := by simp; omega
  go_enter Tryz.func199, Tryz.ntmps199
  go_wp2_with (first | (go_at_call 209; refine (natMake n _ (by omega) (by omega)).mono ?_; rintro e w' ⟨c', hc', rfl, rfl⟩))
  have hblk := Lib.hid (blkMake w c' (.int .u64 0) 138)
  have i1 : (n : Int) ≤ (c' : Int) := by omega
  have i2 : (n : Int) ≤ (ca : Int) := by omega
  have i3 : (n : Int) ≤ (cb : Int) := by omega
  go_region_held3 (fun _ => True) (first | exact trivial) (first | (go_at_call 213; refine (subVV w.heap.size c' bx ox ca by_ oy cb 138 (List.replicate c' (.int .u64 0)) xs ys n _ (by omega) (by exact hblk.out) (by simp; omega) HXL.out HYL.out HX.out.1 HY.out.1 (by omega) (by omega) (by exact fun j h => cell_old _ (HXC.out j h)) (by exact fun j h => cell_old _ (HYC.out j h))).mono ?_; rintro e w1 ⟨ds, c, rfl, hc1, hr⟩; have HR := Lib.hid hr; clear hr; obtain rfl := noBorrow HR.out.1 HR.out.2.1 HR.out.2.2.1 hge hc1; simp only [wv]))
  go_wp2_with (first | (go_at_call 212; refine (natNorm w.heap.size 0 c' ds n _ HR.out.1 (by omega) hc' (by exact fun j h => by rw [Nat.zero_add]; exact HR.out.2.2.2.1.wcell j h)).mono ?_; rintro e w' ⟨es, rfl, rfl, hes⟩; have HE := Lib.hid hes; clear hes))
  go_ret
  obtain ⟨het, heN, hev⟩ := HE.out
  obtain ⟨hdl, hdb, hsum, hblk1, honly⟩ := HR.out
  refine ⟨_, c', es, rfl, ?_, ⟨?_, fun _ => ⟨w.heap.size, 0, rfl, ⟨_, hblk1⟩, ?_⟩⟩, heN, ?_, ?_⟩
  · have := congrArg List.length het; simp only [List.length_take, hdl] at this; omega
  · intro x hx
    rw [het] at hx
    exact hdb x (List.mem_of_mem_take hx)
  · intro j hj
    obtain ⟨hj', e1⟩ := take_getElem het j hj
    rw [e1, Nat.zero_add]
    exact hblk1.wcell j _
  · rw [hev]; omega
  · exact Only.ext (Below.drew (Ext.alloc' _ _)) honly (Nat.le_refl _)
end Go.Proofs.YtagfbefgcijegaaGreatDoor
