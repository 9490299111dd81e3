/-
  (*expiryQueue).push (24) and ZZPush (17): the new queue is a heap that holds the old indexes and d.
-/
import Derived.Test.Qxb6001001aFrame
import Derived.Deep.RegionHeld3
namespace Go.Proofs.Qxb6001001a
open Go.RowKit
set_option linter.unusedVariables false

/-- What holds at the head of push's loop: 'hs' lies in the row; with d laid into the hole k it is a heap but for k and its parent. -/
def PS (B bx gA g n cap nA capA : Nat) (S N zs : List Int) (d : Int) (row : Option Nat) (w wr : World) (k : Nat) (hs : List Int) : Prop :=
  hs.length = n + 1 ∧ wr.ownsRow B 23 1 (.slice (some ⟨g, 0, none⟩) (n + 1) cap) (n + 1) (hs.map (Value.int .u32)) ∧ Ati B wr (.slice (some ⟨gA, 0, none⟩) nA capA) nA S N ∧
  wr.heap[bx]? = some (.cells #[.slice (some ⟨g, 0, none⟩) (n + 1) cap] 55 (0, 0)) ∧ Fr (fun k => k = bx ∨ row = some k) w wr ∧
  Heap.PInv (lat S N) (hs.set k d) k ∧ (hs.set k d).Perm (zs ++ [d]) ∧ (∀ z ∈ hs, 0 ≤ z ∧ z < (nA : Int))

theorem heap_setCell_ne (w : World) (a : Addr) (u : Value) (k : Nat) (h : k ≠ a.block) : (w.setCell a u).heap[k]? = w.heap[k]? := Below.heap_setCell w a u k h

theorem box_after {bx n cap : Nat} {a : Option Addr} {o : Obj} {w w1 : World} (hbx : w.heap[bx]? = some (.cells #[.slice a n cap] 55 (0, 0))) (hne1 : (Value.slice a n cap).ownBlock ≠ some bx)
    (hgrow : (w.alloc o).grownBy w1 (Value.slice a n cap).ownBlock) : w1.cell? ⟨bx, 0, none⟩ = some (.slice a n cap) ∧ w1.frozen? ⟨bx, 0, none⟩ = false := by
  have lbx := lt_of_block hbx
  have hb1 : w1.heap[bx]? = some (.cells #[.slice a n cap] 55 (0, 0)) := by
    rw [hgrow.block bx (by simp; omega) (fun e => hne1 e.symm)]
    rw [Below.heap_alloc _ _ _ lbx]
    exact hbx
  exact ⟨cell_of_one hb1, free_of_one hb1⟩

/-- The state when the loop begins. -/
theorem ps_start {B bx gA g n cap cap' nA capA : Nat} {a : Option Addr} {S N zs : List Int} {d : Int} {w w1 : World}
    (hbx : w.heap[bx]? = some (.cells #[.slice a n cap] 55 (0, 0))) (hat : Ati B w (.slice (some ⟨gA, 0, none⟩) nA capA) nA S N)
    (hne1 : (Value.slice a n cap).ownBlock ≠ some bx) (hne2 : gA ≠ bx) (hne3 : (Value.slice a n cap).ownBlock ≠ some gA)
    (hl : zs.length = n) (hz : ∀ z ∈ zs, 0 ≤ z ∧ z < (nA : Int)) (hd0 : 0 ≤ d) (hd1 : d < (nA : Int)) (hheap : Heap.IsHeap (lat S N) zs)
    (hown1 : w1.ownsRow B 23 1 (.slice (some ⟨g, 0, none⟩) (n + 1) cap') (n + 1) (zs.map (Value.int .u32) ++ [Value.int .u32 d]))
    (hgrow : (w.alloc (.cells #[.int .u32 d] 23)).grownBy w1 (Value.slice a n cap).ownBlock) (hlies : (Value.slice a n cap).ownBlock = some g ∨ g = w.heap.size + 1) :
    PS B bx gA g n cap' nA capA S N zs d (Value.slice a n cap).ownBlock w (w1.setCell ⟨bx, 0, none⟩ (.slice (some ⟨g, 0, none⟩) (n + 1) cap')) n (zs ++ [d]) ∧ g ≠ bx ∧ g ≠ gA := by
  have lbx := lt_of_block hbx
  obtain ⟨ysA, hA1, hA2⟩ := hat
  have lgA := (hA1.lt gA rfl).2
  have hgb : g ≠ bx := by
    intro e; subst e
    rcases hlies with h | h
    · exact hne1 h
    · omega
  have hgA : g ≠ gA := by
    intro e; subst e
    rcases hlies with h | h
    · exact hne3 h
    · omega
  have F0 : Fr (fun k => k = bx ∨ (Value.slice a n cap).ownBlock = some k) w w1 :=
    ((Fr.refl _ w).alloc _).grown hgrow (fun k hk => Or.inl (Or.inr hk))
  have F1 := F0.setCell (p := ⟨bx, 0, none⟩) (Or.inl (Or.inl rfl)) (.slice (some ⟨g, 0, none⟩) (n + 1) cap')
  have hb1 : w1.heap[bx]? = some (.cells #[.slice a n cap] 55 (0, 0)) := by
    rw [hgrow.block bx (by simp; omega) (fun e => hne1 e.symm)]
    rw [Below.heap_alloc _ _ _ lbx]
    exact hbx
  refine ⟨⟨by simp [hl], ?_, ?_, one_setCell hb1, F1, ?_, ?_, ?_⟩, hgb, hgA⟩
  · have e : (zs ++ [d]).map (Value.int .u32) = zs.map (Value.int .u32) ++ [Value.int .u32 d] := by simp
    rw [e]
    exact ownsRow_setCell_other hown1 (by simpa [Value.ownBlock] using hgb) _
  · refine ⟨ysA, owns_fr hA1 F1 (fun k hk => ?_), hA2⟩
    simp only [Value.ownBlock, Option.some.injEq] at hk
    subst hk
    rintro (h | h)
    · exact hne2 h
    · exact hne3 h
  · have := Heap.pinv_start (d := d) hheap
    rw [hl] at this
    rw [← hl, Heap.snoc_set, hl]
    exact this
  · rw [← hl, Heap.snoc_set]
  · intro z hzm
    rcases List.mem_append.1 hzm with h | h
    · exact hz z h
    · simp at h; subst h; exact ⟨hd0, hd1⟩

theorem ps_below {B bx gA g n cap nA capA : Nat} {S N zs hs : List Int} {d : Int} {row : Option Nat} {w wr W : World} {k : Nat} (h : PS B bx gA g n cap nA capA S N zs d row w wr k hs) (hb : Below wr.heap.size wr W) :
    PS B bx gA g n cap nA capA S N zs d row w W k hs := by
  obtain ⟨h1, h2, h3, h4, h5, h6⟩ := h
  exact ⟨h1, owns_below h2 hb, h3.below hb, (hb.block bx (lt_of_block h4)).trans h4, h5.trans (Fr.ofBelow hb), h6⟩

/-- The round: the parent goes down, the hole goes up. -/
theorem ps_step {B bx gA g n cap nA capA : Nat} {S N zs hs : List Int} {d zp : Int} {row : Option Nat} {w W : World} {m : Nat} (h : PS B bx gA g n cap nA capA S N zs d row w W (m + 1) hs)
    (hm : m + 1 ≤ n) (hzp : hs.getD (m / 2) 0 = zp) (ht : lat S N zp d = true) (hg : row = some g ∨ w.heap.size ≤ g) (hgb : g ≠ bx) (hgA : g ≠ gA) :
    PS B bx gA g n cap nA capA S N zs d row w (W.setCell ⟨g, m + 1, none⟩ (.int .u32 zp)) (m / 2) (hs.set (m + 1) zp) := by
  obtain ⟨h1, h2, h3, h4, h5, h6, h7, h8⟩ := h
  subst hzp
  refine ⟨by simpa using h1, ?_, ?_, ?_, ?_, ?_, ?_, ?_⟩
  · have := (h2.stored (m + 1) (.int .u32 (hs.getD (m / 2) 0))).1
    rw [← List.map_set] at this
    exact this
  · refine h3.fr (X := fun k => k = g) ((Fr.refl (fun k => k = g) W).setCell (p := ⟨g, m + 1, none⟩) (Or.inl rfl) _) (fun k hk => ?_)
    simp only [Value.ownBlock, Option.some.injEq] at hk
    omega
  · rw [Below.heap_setCell _ _ _ _ (Ne.symm hgb)]; exact h4
  · exact h5.setCell (by rcases hg with h | h; exact Or.inl (Or.inr h); exact Or.inr h) _
  · have := Heap.pinv_step (lat_order S N) (h := hs) (i := m + 1) (d := d) (by omega) (by omega) h6 (by simpa using ht)
    simpa using this
  · have := Heap.set_swap hs (m + 1) (m / 2) d (by omega) (by omega) (by omega)
    exact this.trans h7
  · intro z hz
    rcases List.mem_or_eq_of_mem_set hz with hz | hz
    · exact h8 z hz
    · subst hz; exact h8 _ (Heap.getD_mem _ _ (by omega))

/-- The end: d is laid into the hole. -/
theorem ps_end {B bx gA g n cap nA capA : Nat} {S N zs hs : List Int} {d : Int} {row : Option Nat} {w wr W : World} {k : Nat} (h : PS B bx gA g n cap nA capA S N zs d row w wr k hs)
    (hb : Below (wr.setCell ⟨g, k, none⟩ (.int .u32 d)).heap.size (wr.setCell ⟨g, k, none⟩ (.int .u32 d)) W)
    (hheap : Heap.IsHeap (lat S N) (hs.set k d)) (hg : row = some g ∨ w.heap.size ≤ g) (hgb : g ≠ bx) :
    ∃ g' cap' out, W.heap[bx]? = some (.cells #[.slice (some ⟨g', 0, none⟩) (n + 1) cap'] 55 (0, 0)) ∧ W.ownsRow B 23 1 (.slice (some ⟨g', 0, none⟩) (n + 1) cap') (n + 1) (out.map (Value.int .u32)) ∧
      Heap.IsHeap (lat S N) out ∧ out.Perm (zs ++ [d]) ∧ (row = some g' ∨ w.heap.size ≤ g') ∧ Fr (fun k => k = bx ∨ row = some k) w W := by
  obtain ⟨h1, h2, h3, h4, h5, h6, h7, h8⟩ := h
  have h4' : (wr.setCell ⟨g, k, none⟩ (.int .u32 d)).heap[bx]? = some (.cells #[.slice (some ⟨g, 0, none⟩) (n + 1) cap] 55 (0, 0)) := by
    rw [Below.heap_setCell _ _ _ _ (Ne.symm hgb)]; exact h4
  refine ⟨g, cap, hs.set k d, ?_, ?_, hheap, h7, hg, ?_⟩
  · rw [hb.block bx (lt_of_block h4')]; exact h4'
  · have := (h2.stored k (.int .u32 d)).1
    rw [← List.map_set] at this
    exact owns_below this hb
  · exact (h5.setCell (p := ⟨g, k, none⟩) (by rcases hg with h | h; exact Or.inl (Or.inr h); exact Or.inr h) _).trans (Fr.ofBelow hb)

set_option maxRecDepth 100000 in
set_option maxHeartbeats 1000000 in
theorem push_any (B bx : Nat) (a : Option Addr) (gA n cap nA capA : Nat) (zs S N : List Int) (d : Int) (w : World)
    (hbx : w.heap[bx]? = some (.cells #[.slice a n cap] 55 (0, 0))) (hown : w.ownsRow B 23 1 (.slice a n cap) n (zs.map (Value.int .u32))) (hat : Ati B w (.slice (some ⟨gA, 0, none⟩) nA capA) nA S N)
    (hne1 : (Value.slice a n cap).ownBlock ≠ some bx) (hne2 : gA ≠ bx) (hne3 : (Value.slice a n cap).ownBlock ≠ some gA) (hB : B ≤ w.heap.size)
    (hn : n ≤ 1048576) (hnA : nA ≤ 1048576) (hz : ∀ z ∈ zs, 0 ≤ z ∧ z < (nA : Int)) (hd0 : 0 ≤ d) (hd1 : d < (nA : Int)) (hheap : Heap.IsHeap (lat S N) zs) :
    Calls Try.prog 24 #[.pointer (some ⟨bx, 0, none⟩), .int .u32 d, .slice (some ⟨gA, 0, none⟩) nA capA] w fun e w' => e = .returned (.tuple #[]) ∧ ∃ g cap' out,
      w'.heap[bx]? = some (.cells #[.slice (some ⟨g, 0, none⟩) (n + 1) cap'] 55 (0, 0)) ∧ w'.ownsRow B 23 1 (.slice (some ⟨g, 0, none⟩) (n + 1) cap') (n + 1) (out.map (Value.int .u32)) ∧
      Heap.IsHeap (lat S N) out ∧ out.Perm (zs ++ [d]) ∧ ((Value.slice a n cap).ownBlock = some g ∨ w.heap.size ≤ g) ∧ Fr (fun k => k = bx ∨ (Value.slice a n cap).ownBlock = some k) w w' := by
  obtain ⟨i0, hi, hz0, hz1, hz2⟩ := info_parts Try.info23
  have cbx := cell_of_one hbx
  have fbx := free_of_one hbx
  have lbx := lt_of_block hbx
  have hl : Hid (zs.length = n) := by show _ = _; have := hown.1; simpa using this
  have ho1 := hown.alloc (.cells #[.int .u32 d] 23)
  have hnew := World.news_of_block (heap_alloc_new w (.cells #[.int .u32 d] 23))
  go_enter Try.func24, Try.ntmps24
  go_wp2_with (at_builtin; refine wpList_append_lies _ rfl _ _ 55 rfl B 23 i0 (.int .u32 0) 1 4 Try.underlying55 hi hz0 hz1 hz2 rfl (by decide) (.slice a n cap) n (zs.map (Value.int .u32)) rfl ho1 ⟨w.heap.size, 0, none⟩ 1 1 [.int .u32 d] rfl rfl hnew (by simp [Value.oneCell']) (by decide) (by unfold maxLen; omega) (by omega) (by simp; omega) (w.heap.size + 1) (by simp) ?_; intro g cap' w1 hown1 hgrow hlies hlt; have PS0 := ps_start hbx hat hne1 hne2 hne3 hl.out hz hd0 hd1 hheap hown1 hgrow hlies; obtain ⟨cb1, fb1⟩ := box_after hbx hne1 hgrow; have HP : Hid _ := PS0; clear PS0  hown1 hgrow)
  clear hbx hown hat hne1 hne2 hne3 hz hheap hi hz0 hz1 hz2 cbx fbx ho1 cb1 fb1 hl
  go_loopw [7] (fun i wr => ∃ (k : Nat) (hs : List Int), k ≤ n ∧ i = .int .i64 k ∧ Hid (PS B bx gA g n cap' nA capA S N zs d (Value.slice a n cap).ownBlock w wr k hs)) (fun i _ => (intOf i).toNat)
  case atStart => exact ⟨n, zs ++ [d], Nat.le_refl _, by go_num, HP.out.1⟩
  case round =>
    obtain ⟨k, hs, hk, rfl, HPS⟩ := hrel
    have HN : Hid (g ≠ bx ∧ g ≠ gA) := HP.out.2
    have HG : Hid ((Value.slice a n cap).ownBlock = some g ∨ w.heap.size ≤ g) := by rcases hlies with h | h; exact Or.inl h; exact Or.inr (by omega)
    clear HP hlies
    have hl1 := HPS.out.1
    have ow := HPS.out.2.1
    have hcell : ∀ j, j < n + 1 → wr.cell? ⟨g, j, none⟩ = some (.int .u32 (hs.getD j 0)) := fun j hj => by
      rw [ow.cellAt j (by omega)]; exact getD_map_int _ _ _ (by omega)
    have ck := hcell k (by omega)
    have fk := ow.frozenAt k
    obtain ⟨gA', hgA', hgA1, hgA2, hAc⟩ := HPS.out.2.2.1.at (by omega)
    simp only [Option.some.injEq, Addr.mk.injEq, and_true] at hgA'
    subst hgA'
    by_cases h0 : k = 0
    · subst h0
      clear hcell ow hAc
      go_wp2
      go_end0
      exact ⟨rfl, ps_end HPS.out (Below.refl _ _) (Heap.pinv_top HPS.out.2.2.2.2.2.1) HG.out HN.out.1⟩
    · obtain ⟨m, rfl⟩ : ∃ m, k = m + 1 := ⟨k - 1, by omega⟩
      have cp := hcell (m / 2) (by omega)
      have hzp := HPS.out.2.2.2.2.2.2.2 (hs.getD (m / 2) 0) (Heap.getD_mem _ _ (by omega))
      have HZ : Hid (∃ z, z = hs.getD (m / 2) 0) := ⟨_, rfl⟩
      generalize hzz : hs.getD (m / 2) 0 = zp at cp hzp
      have HZP : Hid (hs.getD (m / 2) 0 = zp) := hzz
      clear hzz HZ hcell ow
      generalize hs.getD (m + 1) 0 = zk at ck
      obtain ⟨hzp0, hzp1⟩ := hzp
      obtain ⟨A1, A2⟩ := hAc zp.toNat (by omega)
      obtain ⟨A3, A4⟩ := hAc d.toNat (by omega)
      clear hAc
      have HL : Hid (lat S N zp d = aftB (S.getD zp.toNat 0) (N.getD zp.toNat 0) (S.getD d.toNat 0) (N.getD d.toNat 0)) := rfl
      generalize S.getD zp.toNat 0 = s1 at *
      generalize N.getD zp.toNat 0 = n1 at *
      generalize S.getD d.toNat 0 = s2 at *
      generalize N.getD d.toNat 0 = n2 at *
      have glt : g < wr.heap.size := (HPS.out.2.1.lt g rfl).2
      have p0 : (0 : Int) ≤ (m : Int) / 2 := by omega
      have p1 : (m : Int) / 2 < (n : Int) + 1 := by omega
      have e1 : ((m : Int) / 2).toNat = m / 2 := by omega
      have e2 : ((m : Int) + 1).toNat = m + 1 := by omega
      have i0 : (0 : Int) ≤ (m : Int) + 1 := by omega
      have i1 : (m : Int) + 1 < (n : Int) + 1 := by omega
      by_cases hA : aftB s1 n1 s2 n2 = true
      · have HC : Hid (∀ w : World, Calls Try.prog 26 #[.agg #[.int .i64 s1, .int .i32 n1], .agg #[.int .i64 s2, .int .i32 n2]] w fun e w' => e = .returned (.bool true) ∧ w' = (w.alloc (.cells #[.int .i64 s1, .int .i32 n1] 52)).alloc (.cells #[.int .i64 s2, .int .i32 n2] 52)) := by
          intro w; rw [← hA]; exact after_any s1 n1 s2 n2 w
        have HA : Hid (aftB s1 n1 s2 n2 = true) := hA
        clear hA
        go_wp2
        go_region_held3 (fun w' => w'.cell? ⟨g, m / 2, none⟩ = some (.int .u32 zp) ∧ w'.cell? ⟨gA, zp.toNat * 2, none⟩ = some (.int .i64 s1) ∧ w'.cell? ⟨gA, zp.toNat * 2 + 1, none⟩ = some (.int .i32 n1) ∧ w'.cell? ⟨gA, d.toNat * 2, none⟩ = some (.int .i64 s2) ∧ w'.cell? ⟨gA, d.toNat * 2 + 1, none⟩ = some (.int .i32 n2)) (go_keep) ((go_at_call 26; refine (HC.out _).mono ?_; rintro e w' ⟨rfl, rfl⟩))
        clear ‹_ ∧ _›
        go_wp2
        go_roundw
        case rel => exact ⟨m / 2, hs.set (m + 1) zp, by omega, by go_num, ps_below (ps_step HPS.out hk HZP.out (HL.out.trans HA.out) HG.out HN.out.1 HN.out.2) ((((Below.refl _ _).alloc (Nat.le_refl _) _).alloc (by simp) _).drew)⟩
        case measure => simp [intOf]; omega
      · have HC : Hid (∀ w : World, Calls Try.prog 26 #[.agg #[.int .i64 s1, .int .i32 n1], .agg #[.int .i64 s2, .int .i32 n2]] w fun e w' => e = .returned (.bool false) ∧ w' = (w.alloc (.cells #[.int .i64 s1, .int .i32 n1] 52)).alloc (.cells #[.int .i64 s2, .int .i32 n2] 52)) := by
          have hA' : aftB s1 n1 s2 n2 = false := by simpa using hA
          intro w; rw [← hA']; exact after_any s1 n1 s2 n2 w
        have HA : Hid (aftB s1 n1 s2 n2 = false) := by show _ = _; simpa using hA
        clear hA
        go_wp2
        go_region_held3 (fun w' => w'.cell? ⟨g, m / 2, none⟩ = some (.int .u32 zp) ∧ w'.cell? ⟨gA, zp.toNat * 2, none⟩ = some (.int .i64 s1) ∧ w'.cell? ⟨gA, zp.toNat * 2 + 1, none⟩ = some (.int .i32 n1) ∧ w'.cell? ⟨gA, d.toNat * 2, none⟩ = some (.int .i64 s2) ∧ w'.cell? ⟨gA, d.toNat * 2 + 1, none⟩ = some (.int .i32 n2)) (go_keep) ((go_at_call 26; refine (HC.out _).mono ?_; rintro e w' ⟨rfl, rfl⟩))
        clear ‹_ ∧ _›
        go_wp2
        go_end0
        refine ⟨rfl, ps_end HPS.out ((((Below.refl _ _).alloc (Nat.le_refl _) _).alloc (by simp) _).drew) ?_ HG.out HN.out.1⟩
        have hp := HPS.out.2.2.2.2.2.1
        refine Heap.pinv_stop (by omega) (by omega) hp ?_
        rw [Nat.add_sub_cancel, HZP.out]
        exact HL.out.trans HA.out
end Go.Proofs.Qxb6001001a
