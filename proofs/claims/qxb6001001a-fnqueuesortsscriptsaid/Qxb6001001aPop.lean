/-
  (*expiryQueue).pop (25): it hands back the soonest index and leaves a heap of the rest.
-/
import Derived.Test.Qxb6001001aPopState
import Derived.Deep.RegionHeld3
namespace Go.Proofs.Qxb6001001a
open Go.RowKit
set_option linter.unusedVariables false

set_option maxHeartbeats 800000 in
theorem pop_one (B bx gA g cap nA capA : Nat) (zs S N : List Int) (w : World)
    (hbx : w.heap[bx]? = some (.cells #[.slice (some ⟨g, 0, none⟩) (0 + 1) cap] 55 (0, 0))) (hown : w.ownsRow B 23 1 (.slice (some ⟨g, 0, none⟩) (0 + 1) cap) (0 + 1) (zs.map (Value.int .u32)))
    (hat : Ati B w (.slice (some ⟨gA, 0, none⟩) nA capA) nA S N) (hne1 : g ≠ bx) (hne2 : gA ≠ bx) (hcap : 1 ≤ cap) :
    Calls Try.prog 25 #[.pointer (some ⟨bx, 0, none⟩), .slice (some ⟨gA, 0, none⟩) nA capA] w fun e w' => e = .returned (.int .u32 (zs.getD 0 0)) ∧ Popped B bx g 0 cap S N zs w w' := by
  have cbx := cell_of_one hbx
  have fbx := free_of_one hbx
  have c0 : w.cell? ⟨g, 0, none⟩ = some (.int .u32 (zs.getD 0 0)) := by
    rw [hown.cellAt 0 (by omega)]; exact getD_map_int _ _ _ (by have := hown.1; simp at this; omega)
  have HP : Hid (∀ W, Below (w.setCell ⟨bx, 0, none⟩ (.slice (some ⟨g, 0, none⟩) 0 cap)).heap.size (w.setCell ⟨bx, 0, none⟩ (.slice (some ⟨g, 0, none⟩) 0 cap)) W → Popped B bx g 0 cap S N zs w W) :=
    fun W hb => popped_one hbx hown hat hne1 hne2 hb
  generalize hz : zs.getD 0 0 = z0 at c0
  have HZ : Hid (zs.getD 0 0 = z0) := hz
  clear hbx hown hat hz
  go_enter Try.func25, Try.ntmps25
  go_wp2
  go_quiet (fail)
  go_wp2
  go_ret
  refine ⟨rfl, HP.out _ ?_⟩
  exact below_drewN (Below.refl _ _) _

set_option maxRecDepth 100000 in
set_option maxHeartbeats 4000000 in
theorem pop_more (B bx gA g m cap nA capA : Nat) (zs S N : List Int) (w : World)
    (hbx : w.heap[bx]? = some (.cells #[.slice (some ⟨g, 0, none⟩) (m + 1 + 1) cap] 55 (0, 0))) (hown : w.ownsRow B 23 1 (.slice (some ⟨g, 0, none⟩) (m + 1 + 1) cap) (m + 1 + 1) (zs.map (Value.int .u32)))
    (hat : Ati B w (.slice (some ⟨gA, 0, none⟩) nA capA) nA S N) (hne1 : g ≠ bx) (hne2 : gA ≠ bx) (hne3 : g ≠ gA) (hcap : m + 2 ≤ cap)
    (hm : m ≤ 1048576) (hnA : nA ≤ 1048576) (hz : ∀ z ∈ zs, 0 ≤ z ∧ z < (nA : Int)) (hheap : Heap.IsHeap (lat S N) zs) :
    Calls Try.prog 25 #[.pointer (some ⟨bx, 0, none⟩), .slice (some ⟨gA, 0, none⟩) nA capA] w fun e w' => e = .returned (.int .u32 (zs.getD 0 0)) ∧ Popped B bx g (m + 1) cap S N zs w w' := by
  have cbx := cell_of_one hbx
  have fbx := free_of_one hbx
  have hl : zs.length = m + 1 + 1 := by have := hown.1; simpa using this
  have c0 : w.cell? ⟨g, 0, none⟩ = some (.int .u32 (zs.getD 0 0)) := by
    rw [hown.cellAt 0 (by omega)]; exact getD_map_int _ _ _ (by omega)
  have cl : w.cell? ⟨g, m + 1, none⟩ = some (.int .u32 (zs.getD (m + 1) 0)) := by
    rw [hown.cellAt _ (by omega)]; exact getD_map_int _ _ _ (by omega)
  have HP := ds_start hbx hown hat hne1 hne2 hz hheap
  have hlast := hz _ (Heap.getD_mem zs (m + 1) (by omega))
  obtain ⟨hla0, hla1⟩ := hlast
  generalize zs.getD (m + 1) 0 = last at *
  generalize hz0 : zs.getD 0 0 = z0 at c0
  have HZ : Hid (zs.getD 0 0 = z0) := hz0
  have HDS : Hid _ := HP
  have HN : Hid (g ≠ bx ∧ gA ≠ bx ∧ g ≠ gA) := ⟨hne1, hne2, hne3⟩
  clear hbx hown hat hz hheap HP hz0 hl hne1 hne2 hne3
  have q0 : (0 : Int) < (m : Int) + 1 + 1 := by omega
  have hm0 : ((m : Int) + 1 == 0) = false := by simp; omega
  have q1 : (0 : Int) ≤ (m : Int) + 1 := by omega
  have q2 : (m : Int) + 1 < (m : Int) + 1 + 1 := by omega
  have q3 : ((m : Int) + 1).toNat = m + 1 := by omega
  go_enter Try.func25, Try.ntmps25
  go_wp2
  go_quiet (fail)
  go_wp2
  go_loopw [8] (fun i wr => ∃ (k : Nat) (hs : List Int), k < m + 1 ∧ i = .int .i64 k ∧ Hid (DS B bx gA g (m + 1) cap nA capA S N zs last w wr k hs)) (fun i _ => m + 1 - (intOf i).toNat)
  case atStart => exact ⟨0, zs.take (m + 1), by omega, rfl, ds_below HDS.out (below_drewN (Below.refl _ _) _)⟩
  case round =>
    obtain ⟨k, hs, hk, rfl, HPS⟩ := hrel
    clear HDS cbx fbx c0 cl q0 q1 q2 q3
    have hl1 := HPS.out.1
    have ow := HPS.out.2.1
    have hcell : ∀ j, j < m + 1 → wr.cell? ⟨g, j, none⟩ = some (.int .u32 (hs.getD j 0)) := fun j hj => by
      rw [ow.cellAt j (by omega)]; exact getD_map_int _ _ _ (by omega)
    have ck := hcell k (by omega)
    have fk := ow.frozenAt k
    have glt : g < wr.heap.size := (ow.lt g rfl).2
    obtain ⟨gA', hgA', hgA1, gAlt, hAc⟩ := HPS.out.2.2.1.at (by omega)
    simp only [Option.some.injEq, Addr.mk.injEq, and_true] at hgA'
    subst hgA'
    generalize hs.getD k 0 = zk at ck
    by_cases hleaf : m + 1 ≤ 2 * k + 1
    · clear hcell ow hAc
      have t1 : (m : Int) + 1 ≤ 2 * (k : Int) + 1 := by omega
      go_wp2
      go_ret
      exact ⟨rfl, ds_end HPS.out (Below.refl _ _) (Heap.dinv_leaf HPS.out.2.2.2.2.2.1 (by simp; omega)) HN.out.1⟩
    · have cc := hcell (2 * k + 1) (by omega)
      have rc := HPS.out.2.2.2.2.2.2.2 (hs.getD (2 * k + 1) 0) (Heap.getD_mem _ _ (by omega))
      obtain ⟨rc0, rc1⟩ := rc
      have i0 : (0 : Int) ≤ 2 * (k : Int) + 1 := by omega
      have i1 : 2 * (k : Int) + 1 < (m : Int) + 1 := by omega
      have e1 : (2 * (k : Int) + 1).toNat = 2 * k + 1 := by omega
      have e3 : ((k : Int)).toNat = k := by omega
      obtain ⟨L1, L2⟩ := hAc last.toNat (by omega)
      by_cases hright : 2 * k + 2 < m + 1
      · have cr := hcell (2 * k + 2) (by omega)
        obtain ⟨rr0, rr1⟩ := HPS.out.2.2.2.2.2.2.2 (hs.getD (2 * k + 2) 0) (Heap.getD_mem _ _ (by omega))
        have i2 : (0 : Int) ≤ 2 * (k : Int) + 1 + 1 := by omega
        have i3 : 2 * (k : Int) + 1 + 1 < (m : Int) + 1 := by omega
        have e2 : (2 * (k : Int) + 1 + 1).toNat = 2 * k + 2 := by omega
        by_cases hlr : lat S N (hs.getD (2 * k + 1) 0) (hs.getD (2 * k + 2) 0) = true
        · obtain ⟨zl, hzl⟩ : ∃ z, hs.getD (2 * k + 1) 0 = z := ⟨_, rfl⟩
          obtain ⟨zr, hzr⟩ : ∃ z, hs.getD (2 * k + 2) 0 = z := ⟨_, rfl⟩
          have HK : Hid (∀ j, 1 ≤ j → j < m + 1 → (j - 1) / 2 = k → lat S N (hs.getD (2 * k + 2) 0) (hs.getD j 0) = false) := kids_right (lat_order S N) hlr
          have HZL : Hid (hs.getD (2 * k + 1) 0 = zl) := hzl
          have HZR : Hid (hs.getD (2 * k + 2) 0 = zr) := hzr
          rw [hzl] at cc rc0 rc1 hlr
          rw [hzr] at cr rr0 rr1 hlr
          clear hzl hzr
          obtain ⟨A1, A2⟩ := hAc zl.toNat (by omega)
          obtain ⟨A3, A4⟩ := hAc zr.toNat (by omega)
          have HT : Hid (lat S N last zr = aftB (S.getD last.toNat 0) (N.getD last.toNat 0) (S.getD zr.toNat 0) (N.getD zr.toNat 0)) := rfl
          unfold lat at hlr
          clear hcell ow hAc
          generalize S.getD last.toNat 0 = sa at *
          generalize N.getD last.toNat 0 = na at *
          generalize S.getD zl.toNat 0 = sl at *
          generalize N.getD zl.toNat 0 = nl at *
          generalize S.getD zr.toNat 0 = sr at *
          generalize N.getD zr.toNat 0 = nr at *
          have HC1 : Hid (∀ w : World, Calls Try.prog 26 #[.agg #[.int .i64 sl, .int .i32 nl], .agg #[.int .i64 sr, .int .i32 nr]] w fun e w' => e = .returned (.bool true) ∧ w' = (w.alloc (.cells #[.int .i64 sl, .int .i32 nl] 52)).alloc (.cells #[.int .i64 sr, .int .i32 nr] 52)) := by
            intro w; rw [← hlr]; exact after_any sl nl sr nr w
          clear hlr

          by_cases hA : aftB sa na sr nr = true
          · have HC2 : Hid (∀ w : World, Calls Try.prog 26 #[.agg #[.int .i64 sa, .int .i32 na], .agg #[.int .i64 sr, .int .i32 nr]] w fun e w' => e = .returned (.bool true) ∧ w' = (w.alloc (.cells #[.int .i64 sa, .int .i32 na] 52)).alloc (.cells #[.int .i64 sr, .int .i32 nr] 52)) := by
              intro w; rw [← hA]; exact after_any sa na sr nr w
            have HA : Hid (aftB sa na sr nr = true) := hA
            clear hA
            go_wp2
            go_region_held3 (fun w' => w'.cell? ⟨g, 2 * k + 1, none⟩ = some (.int .u32 zl) ∧ w'.cell? ⟨g, 2 * k + 2, none⟩ = some (.int .u32 zr) ∧ w'.cell? ⟨gA, zl.toNat * 2, none⟩ = some (.int .i64 sl) ∧ w'.cell? ⟨gA, zl.toNat * 2 + 1, none⟩ = some (.int .i32 nl) ∧ w'.cell? ⟨gA, zr.toNat * 2, none⟩ = some (.int .i64 sr) ∧ w'.cell? ⟨gA, zr.toNat * 2 + 1, none⟩ = some (.int .i32 nr)) (go_keep) ((go_at_call 26; refine (HC1.out _).mono ?_; rintro e w' ⟨rfl, rfl⟩))
            clear ‹_ ∧ _›
            go_wp2
            have hb2 := ((((Below.refl wr.heap.size wr).alloc (Nat.le_refl _) (.cells #[.int .i64 sl, .int .i32 nl] 52)).alloc (by simp) (.cells #[.int .i64 sr, .int .i32 nr] 52)).drew)
            generalize hW2 : ((wr.alloc (.cells #[.int .i64 sl, .int .i32 nl] 52)).alloc (.cells #[.int .i64 sr, .int .i32 nr] 52)).drew = W2 at hb2 ⊢
            have HPT := ds_below HPS.out hb2
            have cc2 := cell_later hb2 cc
            have cr2 := cell_later hb2 cr
            have ck2 := cell_later hb2 ck
            have A12 := cell_later hb2 A1
            have A22 := cell_later hb2 A2
            have A32 := cell_later hb2 A3
            have A42 := cell_later hb2 A4
            have L12 := cell_later hb2 L1
            have L22 := cell_later hb2 L2
            have fk2 := HPT.2.1.frozenAt k
            have glt2 : g < W2.heap.size := Nat.lt_of_lt_of_le glt hb2.size
            have gAlt2 : gA < W2.heap.size := Nat.lt_of_lt_of_le gAlt hb2.size
            clear HPS cc cr ck A1 A2 A3 A4 L1 L2 fk glt gAlt hb2 hW2
            have HPS : Hid _ := HPT
            clear HPT
            go_region_held3 (fun w' => w'.cell? ⟨g, 2 * k + 2, none⟩ = some (.int .u32 zr) ∧ w'.cell? ⟨gA, last.toNat * 2, none⟩ = some (.int .i64 sa) ∧ w'.cell? ⟨gA, last.toNat * 2 + 1, none⟩ = some (.int .i32 na) ∧ w'.cell? ⟨gA, zr.toNat * 2, none⟩ = some (.int .i64 sr) ∧ w'.cell? ⟨gA, zr.toNat * 2 + 1, none⟩ = some (.int .i32 nr)) (go_keep) ((go_at_call 26; refine (HC2.out _).mono ?_; rintro e w' ⟨rfl, rfl⟩))
            clear ‹_ ∧ _›
            go_wp2
            go_roundw
            case rel =>
              have hk2 := HK.out
              rw [HZR.out] at hk2
              first
                | exact ⟨2 * k + 2, hs.set k zr, by omega, by go_num, ds_below (ds_step HPS.out (by omega) (by omega) (by omega) HZR.out hk2 (HT.out.trans HA.out) HN.out.1 HN.out.2.2) ((((Below.refl _ _).alloc (Nat.le_refl _) _).alloc (by simp) _).drew)⟩
                | (repeat apply Exists.intro
                   refine ⟨?_, rfl⟩
                   exact ⟨2 * k + 2, hs.set k zr, by omega, by go_num, ds_below (ds_step HPS.out (by omega) (by omega) (by omega) HZR.out hk2 (HT.out.trans HA.out) HN.out.1 HN.out.2.2) ((((Below.refl _ _).alloc (Nat.le_refl _) _).alloc (by simp) _).drew)⟩)
            case measure => simp [intOf]; omega
          · have hA' : aftB sa na sr nr = false := by simpa using hA
            have HC2 : Hid (∀ w : World, Calls Try.prog 26 #[.agg #[.int .i64 sa, .int .i32 na], .agg #[.int .i64 sr, .int .i32 nr]] w fun e w' => e = .returned (.bool false) ∧ w' = (w.alloc (.cells #[.int .i64 sa, .int .i32 na] 52)).alloc (.cells #[.int .i64 sr, .int .i32 nr] 52)) := by
              intro w; rw [← hA']; exact after_any sa na sr nr w
            have HA : Hid (aftB sa na sr nr = false) := hA'
            clear hA hA'
            go_wp2
            go_region_held3 (fun w' => w'.cell? ⟨g, 2 * k + 1, none⟩ = some (.int .u32 zl) ∧ w'.cell? ⟨g, 2 * k + 2, none⟩ = some (.int .u32 zr) ∧ w'.cell? ⟨gA, zl.toNat * 2, none⟩ = some (.int .i64 sl) ∧ w'.cell? ⟨gA, zl.toNat * 2 + 1, none⟩ = some (.int .i32 nl) ∧ w'.cell? ⟨gA, zr.toNat * 2, none⟩ = some (.int .i64 sr) ∧ w'.cell? ⟨gA, zr.toNat * 2 + 1, none⟩ = some (.int .i32 nr)) (go_keep) ((go_at_call 26; refine (HC1.out _).mono ?_; rintro e w' ⟨rfl, rfl⟩))
            clear ‹_ ∧ _›
            go_wp2
            have hb2 := ((((Below.refl wr.heap.size wr).alloc (Nat.le_refl _) (.cells #[.int .i64 sl, .int .i32 nl] 52)).alloc (by simp) (.cells #[.int .i64 sr, .int .i32 nr] 52)).drew)
            generalize hW2 : ((wr.alloc (.cells #[.int .i64 sl, .int .i32 nl] 52)).alloc (.cells #[.int .i64 sr, .int .i32 nr] 52)).drew = W2 at hb2 ⊢
            have HPT := ds_below HPS.out hb2
            have cc2 := cell_later hb2 cc
            have cr2 := cell_later hb2 cr
            have ck2 := cell_later hb2 ck
            have A12 := cell_later hb2 A1
            have A22 := cell_later hb2 A2
            have A32 := cell_later hb2 A3
            have A42 := cell_later hb2 A4
            have L12 := cell_later hb2 L1
            have L22 := cell_later hb2 L2
            have fk2 := HPT.2.1.frozenAt k
            have glt2 : g < W2.heap.size := Nat.lt_of_lt_of_le glt hb2.size
            have gAlt2 : gA < W2.heap.size := Nat.lt_of_lt_of_le gAlt hb2.size
            clear HPS cc cr ck A1 A2 A3 A4 L1 L2 fk glt gAlt hb2 hW2
            have HPS : Hid _ := HPT
            clear HPT
            go_region_held3 (fun w' => w'.cell? ⟨g, 2 * k + 2, none⟩ = some (.int .u32 zr) ∧ w'.cell? ⟨gA, last.toNat * 2, none⟩ = some (.int .i64 sa) ∧ w'.cell? ⟨gA, last.toNat * 2 + 1, none⟩ = some (.int .i32 na) ∧ w'.cell? ⟨gA, zr.toNat * 2, none⟩ = some (.int .i64 sr) ∧ w'.cell? ⟨gA, zr.toNat * 2 + 1, none⟩ = some (.int .i32 nr)) (go_keep) ((go_at_call 26; refine (HC2.out _).mono ?_; rintro e w' ⟨rfl, rfl⟩))
            clear ‹_ ∧ _›
            go_wp2
            go_ret
            refine ⟨rfl, ds_end HPS.out ((((Below.refl _ _).alloc (Nat.le_refl _) _).alloc (by simp) _).drew) ?_ HN.out.1⟩
            refine Heap.dinv_stop (lat_order S N) (c := 2 * k + 2) (by omega) HPS.out.2.2.2.2.2.1 (by rw [hl1]; exact HK.out) ?_
            rw [HZR.out]
            exact HT.out.trans HA.out
        · obtain ⟨zl, hzl⟩ : ∃ z, hs.getD (2 * k + 1) 0 = z := ⟨_, rfl⟩
          obtain ⟨zr, hzr⟩ : ∃ z, hs.getD (2 * k + 2) 0 = z := ⟨_, rfl⟩
          have HK : Hid (∀ j, 1 ≤ j → j < m + 1 → (j - 1) / 2 = k → lat S N (hs.getD (2 * k + 1) 0) (hs.getD j 0) = false) := kids_left (lat_order S N) (by simpa using hlr)
          have HZL : Hid (hs.getD (2 * k + 1) 0 = zl) := hzl
          have HZR : Hid (hs.getD (2 * k + 2) 0 = zr) := hzr
          rw [hzl] at cc rc0 rc1 hlr
          rw [hzr] at cr rr0 rr1 hlr
          clear hzl hzr
          obtain ⟨A1, A2⟩ := hAc zl.toNat (by omega)
          obtain ⟨A3, A4⟩ := hAc zr.toNat (by omega)
          have HT : Hid (lat S N last zl = aftB (S.getD last.toNat 0) (N.getD last.toNat 0) (S.getD zl.toNat 0) (N.getD zl.toNat 0)) := rfl
          unfold lat at hlr
          clear hcell ow hAc
          generalize S.getD last.toNat 0 = sa at *
          generalize N.getD last.toNat 0 = na at *
          generalize S.getD zl.toNat 0 = sl at *
          generalize N.getD zl.toNat 0 = nl at *
          generalize S.getD zr.toNat 0 = sr at *
          generalize N.getD zr.toNat 0 = nr at *
          have hlr' : aftB sl nl sr nr = false := by simpa using hlr
          have HC1 : Hid (∀ w : World, Calls Try.prog 26 #[.agg #[.int .i64 sl, .int .i32 nl], .agg #[.int .i64 sr, .int .i32 nr]] w fun e w' => e = .returned (.bool false) ∧ w' = (w.alloc (.cells #[.int .i64 sl, .int .i32 nl] 52)).alloc (.cells #[.int .i64 sr, .int .i32 nr] 52)) := by
            intro w; rw [← hlr']; exact after_any sl nl sr nr w
          clear hlr hlr'

          by_cases hA : aftB sa na sl nl = true
          · have HC2 : Hid (∀ w : World, Calls Try.prog 26 #[.agg #[.int .i64 sa, .int .i32 na], .agg #[.int .i64 sl, .int .i32 nl]] w fun e w' => e = .returned (.bool true) ∧ w' = (w.alloc (.cells #[.int .i64 sa, .int .i32 na] 52)).alloc (.cells #[.int .i64 sl, .int .i32 nl] 52)) := by
              intro w; rw [← hA]; exact after_any sa na sl nl w
            have HA : Hid (aftB sa na sl nl = true) := hA
            clear hA
            go_wp2
            go_region_held3 (fun w' => w'.cell? ⟨g, 2 * k + 1, none⟩ = some (.int .u32 zl) ∧ w'.cell? ⟨g, 2 * k + 2, none⟩ = some (.int .u32 zr) ∧ w'.cell? ⟨gA, zl.toNat * 2, none⟩ = some (.int .i64 sl) ∧ w'.cell? ⟨gA, zl.toNat * 2 + 1, none⟩ = some (.int .i32 nl) ∧ w'.cell? ⟨gA, zr.toNat * 2, none⟩ = some (.int .i64 sr) ∧ w'.cell? ⟨gA, zr.toNat * 2 + 1, none⟩ = some (.int .i32 nr)) (go_keep) ((go_at_call 26; refine (HC1.out _).mono ?_; rintro e w' ⟨rfl, rfl⟩))
            clear ‹_ ∧ _›
            go_wp2
            have hb2 := ((((Below.refl wr.heap.size wr).alloc (Nat.le_refl _) (.cells #[.int .i64 sl, .int .i32 nl] 52)).alloc (by simp) (.cells #[.int .i64 sr, .int .i32 nr] 52)).drew)
            generalize hW2 : ((wr.alloc (.cells #[.int .i64 sl, .int .i32 nl] 52)).alloc (.cells #[.int .i64 sr, .int .i32 nr] 52)).drew = W2 at hb2 ⊢
            have HPT := ds_below HPS.out hb2
            have cc2 := cell_later hb2 cc
            have cr2 := cell_later hb2 cr
            have ck2 := cell_later hb2 ck
            have A12 := cell_later hb2 A1
            have A22 := cell_later hb2 A2
            have A32 := cell_later hb2 A3
            have A42 := cell_later hb2 A4
            have L12 := cell_later hb2 L1
            have L22 := cell_later hb2 L2
            have fk2 := HPT.2.1.frozenAt k
            have glt2 : g < W2.heap.size := Nat.lt_of_lt_of_le glt hb2.size
            have gAlt2 : gA < W2.heap.size := Nat.lt_of_lt_of_le gAlt hb2.size
            clear HPS cc cr ck A1 A2 A3 A4 L1 L2 fk glt gAlt hb2 hW2
            have HPS : Hid _ := HPT
            clear HPT
            go_region_held3 (fun w' => w'.cell? ⟨g, 2 * k + 1, none⟩ = some (.int .u32 zl) ∧ w'.cell? ⟨gA, last.toNat * 2, none⟩ = some (.int .i64 sa) ∧ w'.cell? ⟨gA, last.toNat * 2 + 1, none⟩ = some (.int .i32 na) ∧ w'.cell? ⟨gA, zl.toNat * 2, none⟩ = some (.int .i64 sl) ∧ w'.cell? ⟨gA, zl.toNat * 2 + 1, none⟩ = some (.int .i32 nl)) (go_keep) ((go_at_call 26; refine (HC2.out _).mono ?_; rintro e w' ⟨rfl, rfl⟩))
            clear ‹_ ∧ _›
            go_wp2
            go_roundw
            case rel =>
              have hk2 := HK.out
              rw [HZL.out] at hk2
              first
                | exact ⟨2 * k + 1, hs.set k zl, by omega, by go_num, ds_below (ds_step HPS.out (by omega) (by omega) (by omega) HZL.out hk2 (HT.out.trans HA.out) HN.out.1 HN.out.2.2) ((((Below.refl _ _).alloc (Nat.le_refl _) _).alloc (by simp) _).drew)⟩
                | (repeat apply Exists.intro
                   refine ⟨?_, rfl⟩
                   exact ⟨2 * k + 1, hs.set k zl, by omega, by go_num, ds_below (ds_step HPS.out (by omega) (by omega) (by omega) HZL.out hk2 (HT.out.trans HA.out) HN.out.1 HN.out.2.2) ((((Below.refl _ _).alloc (Nat.le_refl _) _).alloc (by simp) _).drew)⟩)
            case measure => simp [intOf]; omega
          · have hA' : aftB sa na sl nl = false := by simpa using hA
            have HC2 : Hid (∀ w : World, Calls Try.prog 26 #[.agg #[.int .i64 sa, .int .i32 na], .agg #[.int .i64 sl, .int .i32 nl]] w fun e w' => e = .returned (.bool false) ∧ w' = (w.alloc (.cells #[.int .i64 sa, .int .i32 na] 52)).alloc (.cells #[.int .i64 sl, .int .i32 nl] 52)) := by
              intro w; rw [← hA']; exact after_any sa na sl nl w
            have HA : Hid (aftB sa na sl nl = false) := hA'
            clear hA hA'
            go_wp2
            go_region_held3 (fun w' => w'.cell? ⟨g, 2 * k + 1, none⟩ = some (.int .u32 zl) ∧ w'.cell? ⟨g, 2 * k + 2, none⟩ = some (.int .u32 zr) ∧ w'.cell? ⟨gA, zl.toNat * 2, none⟩ = some (.int .i64 sl) ∧ w'.cell? ⟨gA, zl.toNat * 2 + 1, none⟩ = some (.int .i32 nl) ∧ w'.cell? ⟨gA, zr.toNat * 2, none⟩ = some (.int .i64 sr) ∧ w'.cell? ⟨gA, zr.toNat * 2 + 1, none⟩ = some (.int .i32 nr)) (go_keep) ((go_at_call 26; refine (HC1.out _).mono ?_; rintro e w' ⟨rfl, rfl⟩))
            clear ‹_ ∧ _›
            go_wp2
            have hb2 := ((((Below.refl wr.heap.size wr).alloc (Nat.le_refl _) (.cells #[.int .i64 sl, .int .i32 nl] 52)).alloc (by simp) (.cells #[.int .i64 sr, .int .i32 nr] 52)).drew)
            generalize hW2 : ((wr.alloc (.cells #[.int .i64 sl, .int .i32 nl] 52)).alloc (.cells #[.int .i64 sr, .int .i32 nr] 52)).drew = W2 at hb2 ⊢
            have HPT := ds_below HPS.out hb2
            have cc2 := cell_later hb2 cc
            have cr2 := cell_later hb2 cr
            have ck2 := cell_later hb2 ck
            have A12 := cell_later hb2 A1
            have A22 := cell_later hb2 A2
            have A32 := cell_later hb2 A3
            have A42 := cell_later hb2 A4
            have L12 := cell_later hb2 L1
            have L22 := cell_later hb2 L2
            have fk2 := HPT.2.1.frozenAt k
            have glt2 : g < W2.heap.size := Nat.lt_of_lt_of_le glt hb2.size
            have gAlt2 : gA < W2.heap.size := Nat.lt_of_lt_of_le gAlt hb2.size
            clear HPS cc cr ck A1 A2 A3 A4 L1 L2 fk glt gAlt hb2 hW2
            have HPS : Hid _ := HPT
            clear HPT
            go_region_held3 (fun w' => w'.cell? ⟨g, 2 * k + 1, none⟩ = some (.int .u32 zl) ∧ w'.cell? ⟨gA, last.toNat * 2, none⟩ = some (.int .i64 sa) ∧ w'.cell? ⟨gA, last.toNat * 2 + 1, none⟩ = some (.int .i32 na) ∧ w'.cell? ⟨gA, zl.toNat * 2, none⟩ = some (.int .i64 sl) ∧ w'.cell? ⟨gA, zl.toNat * 2 + 1, none⟩ = some (.int .i32 nl)) (go_keep) ((go_at_call 26; refine (HC2.out _).mono ?_; rintro e w' ⟨rfl, rfl⟩))
            clear ‹_ ∧ _›
            go_wp2
            go_ret
            refine ⟨rfl, ds_end HPS.out ((((Below.refl _ _).alloc (Nat.le_refl _) _).alloc (by simp) _).drew) ?_ HN.out.1⟩
            refine Heap.dinv_stop (lat_order S N) (c := 2 * k + 1) (by omega) HPS.out.2.2.2.2.2.1 (by rw [hl1]; exact HK.out) ?_
            rw [HZL.out]
            exact HT.out.trans HA.out
      · have i4 : decide (2 * (k : Int) + 1 + 1 < (m : Int) + 1) = false := decide_eq_false (by omega)
        have i5 : decide (2 * (k : Int) + 1 < (m : Int)) = false := decide_eq_false (by omega)
        obtain ⟨zl, hzl⟩ : ∃ z, hs.getD (2 * k + 1) 0 = z := ⟨_, rfl⟩
        have HK : Hid (∀ j, 1 ≤ j → j < m + 1 → (j - 1) / 2 = k → lat S N (hs.getD (2 * k + 1) 0) (hs.getD j 0) = false) := kids_one (lat_order S N) (by omega)
        have HZL : Hid (hs.getD (2 * k + 1) 0 = zl) := hzl
        rw [hzl] at cc rc0 rc1
        clear hzl
        obtain ⟨A1, A2⟩ := hAc zl.toNat (by omega)
        have HT : Hid (lat S N last zl = aftB (S.getD last.toNat 0) (N.getD last.toNat 0) (S.getD zl.toNat 0) (N.getD zl.toNat 0)) := rfl
        clear hcell ow hAc
        generalize S.getD last.toNat 0 = sa at *
        generalize N.getD last.toNat 0 = na at *
        generalize S.getD zl.toNat 0 = sl at *
        generalize N.getD zl.toNat 0 = nl at *

        by_cases hA : aftB sa na sl nl = true
        · have HC2 : Hid (∀ w : World, Calls Try.prog 26 #[.agg #[.int .i64 sa, .int .i32 na], .agg #[.int .i64 sl, .int .i32 nl]] w fun e w' => e = .returned (.bool true) ∧ w' = (w.alloc (.cells #[.int .i64 sa, .int .i32 na] 52)).alloc (.cells #[.int .i64 sl, .int .i32 nl] 52)) := by
            intro w; rw [← hA]; exact after_any sa na sl nl w
          have HA : Hid (aftB sa na sl nl = true) := hA
          clear hA
          go_wp2
          go_quiet (fail)
          go_wp2
          have hb2 := below_drewN (Below.refl wr.heap.size wr) nq
          generalize hW2 : wr.drewN nq = W2 at hb2 ⊢
          have HPT := ds_below HPS.out hb2
          have cc2 := cell_later hb2 cc
          have ck2 := cell_later hb2 ck
          have A12 := cell_later hb2 A1
          have A22 := cell_later hb2 A2
          have L12 := cell_later hb2 L1
          have L22 := cell_later hb2 L2
          have fk2 := HPT.2.1.frozenAt k
          have glt2 : g < W2.heap.size := Nat.lt_of_lt_of_le glt hb2.size
          have gAlt2 : gA < W2.heap.size := Nat.lt_of_lt_of_le gAlt hb2.size
          clear HPS cc ck A1 A2 L1 L2 fk glt gAlt hb2 hW2
          have HPS : Hid _ := HPT
          clear HPT
          go_region_held3 (fun w' => w'.cell? ⟨g, 2 * k + 1, none⟩ = some (.int .u32 zl) ∧ w'.cell? ⟨gA, last.toNat * 2, none⟩ = some (.int .i64 sa) ∧ w'.cell? ⟨gA, last.toNat * 2 + 1, none⟩ = some (.int .i32 na) ∧ w'.cell? ⟨gA, zl.toNat * 2, none⟩ = some (.int .i64 sl) ∧ w'.cell? ⟨gA, zl.toNat * 2 + 1, none⟩ = some (.int .i32 nl)) (go_keep) ((go_at_call 26; refine (HC2.out _).mono ?_; rintro e w' ⟨rfl, rfl⟩))
          clear ‹_ ∧ _›
          go_wp2
          go_roundw
          case rel =>
            have hk2 := HK.out
            rw [HZL.out] at hk2
            first
              | exact ⟨2 * k + 1, hs.set k zl, by omega, by go_num, ds_below (ds_step HPS.out (by omega) (by omega) (by omega) HZL.out hk2 (HT.out.trans HA.out) HN.out.1 HN.out.2.2) ((((Below.refl _ _).alloc (Nat.le_refl _) _).alloc (by simp) _).drew)⟩
              | (repeat apply Exists.intro
                 refine ⟨?_, rfl⟩
                 exact ⟨2 * k + 1, hs.set k zl, by omega, by go_num, ds_below (ds_step HPS.out (by omega) (by omega) (by omega) HZL.out hk2 (HT.out.trans HA.out) HN.out.1 HN.out.2.2) ((((Below.refl _ _).alloc (Nat.le_refl _) _).alloc (by simp) _).drew)⟩)
          case measure => simp [intOf]; omega
        · have hA' : aftB sa na sl nl = false := by simpa using hA
          have HC2 : Hid (∀ w : World, Calls Try.prog 26 #[.agg #[.int .i64 sa, .int .i32 na], .agg #[.int .i64 sl, .int .i32 nl]] w fun e w' => e = .returned (.bool false) ∧ w' = (w.alloc (.cells #[.int .i64 sa, .int .i32 na] 52)).alloc (.cells #[.int .i64 sl, .int .i32 nl] 52)) := by
            intro w; rw [← hA']; exact after_any sa na sl nl w
          have HA : Hid (aftB sa na sl nl = false) := hA'
          clear hA hA'
          go_wp2
          go_quiet (fail)
          go_wp2
          have hb2 := below_drewN (Below.refl wr.heap.size wr) nq
          generalize hW2 : wr.drewN nq = W2 at hb2 ⊢
          have HPT := ds_below HPS.out hb2
          have cc2 := cell_later hb2 cc
          have ck2 := cell_later hb2 ck
          have A12 := cell_later hb2 A1
          have A22 := cell_later hb2 A2
          have L12 := cell_later hb2 L1
          have L22 := cell_later hb2 L2
          have fk2 := HPT.2.1.frozenAt k
          have glt2 : g < W2.heap.size := Nat.lt_of_lt_of_le glt hb2.size
          have gAlt2 : gA < W2.heap.size := Nat.lt_of_lt_of_le gAlt hb2.size
          clear HPS cc ck A1 A2 L1 L2 fk glt gAlt hb2 hW2
          have HPS : Hid _ := HPT
          clear HPT
          go_region_held3 (fun w' => w'.cell? ⟨g, 2 * k + 1, none⟩ = some (.int .u32 zl) ∧ w'.cell? ⟨gA, last.toNat * 2, none⟩ = some (.int .i64 sa) ∧ w'.cell? ⟨gA, last.toNat * 2 + 1, none⟩ = some (.int .i32 na) ∧ w'.cell? ⟨gA, zl.toNat * 2, none⟩ = some (.int .i64 sl) ∧ w'.cell? ⟨gA, zl.toNat * 2 + 1, none⟩ = some (.int .i32 nl)) (go_keep) ((go_at_call 26; refine (HC2.out _).mono ?_; rintro e w' ⟨rfl, rfl⟩))
          clear ‹_ ∧ _›
          go_wp2
          go_ret
          refine ⟨rfl, ds_end HPS.out ((((Below.refl _ _).alloc (Nat.le_refl _) _).alloc (by simp) _).drew) ?_ HN.out.1⟩
          refine Heap.dinv_stop (lat_order S N) (c := 2 * k + 1) (by omega) HPS.out.2.2.2.2.2.1 (by rw [hl1]; exact HK.out) ?_
          rw [HZL.out]
          exact HT.out.trans HA.out
end Go.Proofs.Qxb6001001a
