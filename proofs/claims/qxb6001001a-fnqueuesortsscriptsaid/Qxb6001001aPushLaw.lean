/-
  FnPushKeepsHeapAndContents (5): the law, out of the contracts of its callees.
-/
import Derived.Test.Qxb6001001aZzPush
namespace Go.Proofs.Qxb6001001a
open Go.RowKit
set_option linter.unusedVariables false

theorem mem_range {zs : List Int} {lo hi : Int} (h : ∀ j, j < zs.length → lo ≤ zs.getD j 0 ∧ zs.getD j 0 < hi) : ∀ z ∈ zs, lo ≤ z ∧ z < hi := by
  intro z hz
  obtain ⟨j, hj, rfl⟩ := List.getElem_of_mem hz
  have := h j hj
  rwa [List.getD_eq_getElem?_getD, List.getElem?_eq_getElem hj] at this

theorem range_mem {zs : List Int} {lo hi : Int} (h : ∀ z ∈ zs, lo ≤ z ∧ z < hi) : ∀ j, j < zs.length → lo ≤ zs.getD j 0 ∧ zs.getD j 0 < hi :=
  fun j hj => h _ (Heap.getD_mem zs j hj)

/-! ### the ways on which the law says true at once -/
section Out
variable (a0 a2 a3 : Option Addr) (l0 c0 l2 c2 l3 c3 : Nat) (zs S N : List Int) (d : Int) (w : World)

set_option maxHeartbeats 400000 in
theorem pushOut_bytes (h : bytesB l0 l2 l3 = false) :
    Calls Try.prog 5 #[.slice a0 l0 c0, .int .u32 d, .slice a2 l2 c2, .slice a3 l3 c3] w fun e w' => e = .returned (.bool true) ∧ Below w.heap.size w w' := by
  have HB : Hid (∀ w, Calls Try.prog 9 #[.slice a0 l0 c0, .int .u32 d, .slice a2 l2 c2, .slice a3 l3 c3] w fun e w' => e = .returned (.bool false) ∧ w' = w) := by
    intro w; rw [← h]; exact bytes9_any a0 a2 a3 l0 c0 l2 c2 l3 c3 d w
  clear h
  go_enter Try.func5, Try.ntmps5
  go_wp2_with (go_at_call 9; refine (HB.out _).mono ?_; rintro e w' ⟨rfl, rfl⟩)
  go_ret
  exact ⟨rfl, Below.refl _ _⟩

set_option maxHeartbeats 400000 in
theorem pushOut_len (h : bytesB l0 l2 l3 = true) (h2 : 65536 < l0 ∨ 65536 < l2 ∨ 65536 < l3 ∨ 1048576 < 4 * l0 + 8 * l2 + 4 * l3 ∨ l2 ≠ l3) :
    Calls Try.prog 5 #[.slice a0 l0 c0, .int .u32 d, .slice a2 l2 c2, .slice a3 l3 c3] w fun e w' => e = .returned (.bool true) ∧ Below w.heap.size w w' := by
  have HB : Hid (∀ w, Calls Try.prog 9 #[.slice a0 l0 c0, .int .u32 d, .slice a2 l2 c2, .slice a3 l3 c3] w fun e w' => e = .returned (.bool true) ∧ w' = w) := by
    intro w; rw [← h]; exact bytes9_any a0 a2 a3 l0 c0 l2 c2 l3 c3 d w
  have hb : l0 + l2 + l3 ≤ 1048576 := by simpa [bytesB] using h
  clear h
  by_cases g0 : 65536 < l0
  · clear h2
    go_enter Try.func5, Try.ntmps5
    go_wp2_with (go_at_call 9; refine (HB.out _).mono ?_; rintro e w' ⟨rfl, rfl⟩)
    go_ret
    exact ⟨rfl, Below.refl _ _⟩
  · by_cases g1 : 65536 < l2
    · clear h2
      go_enter Try.func5, Try.ntmps5
      go_wp2_with (go_at_call 9; refine (HB.out _).mono ?_; rintro e w' ⟨rfl, rfl⟩)
      go_ret
      exact ⟨rfl, Below.refl _ _⟩
    · by_cases g2 : 65536 < l3
      · clear h2
        go_enter Try.func5, Try.ntmps5
        go_wp2_with (go_at_call 9; refine (HB.out _).mono ?_; rintro e w' ⟨rfl, rfl⟩)
        go_ret
        exact ⟨rfl, Below.refl _ _⟩
      · by_cases g3 : 1048576 < 4 * l0 + 8 * l2 + 4 * l3
        · exact absurd g3 (by omega)
        · have g4 : ((l2 : Int) == (l3 : Int)) = false := by simp; omega
          clear h2
          go_enter Try.func5, Try.ntmps5
          go_wp2_with (go_at_call 9; refine (HB.out _).mono ?_; rintro e w' ⟨rfl, rfl⟩)
          go_ret
          exact ⟨rfl, Below.refl _ _⟩

set_option maxHeartbeats 400000 in
theorem pushOut_d (h : bytesB l0 l2 l2 = true) (g0 : l0 ≤ 65536) (g1 : l2 ≤ 65536) (g2 : 4 * l0 + 8 * l2 + 4 * l2 ≤ 1048576) (hd0 : 0 ≤ d) (hd1 : d < 4294967296) (hd : (l2 : Int) ≤ d) :
    Calls Try.prog 5 #[.slice a0 l0 c0, .int .u32 d, .slice a2 l2 c2, .slice a3 l2 c3] w fun e w' => e = .returned (.bool true) ∧ Below w.heap.size w w' := by
  have HB : Hid (∀ w, Calls Try.prog 9 #[.slice a0 l0 c0, .int .u32 d, .slice a2 l2 c2, .slice a3 l2 c3] w fun e w' => e = .returned (.bool true) ∧ w' = w) := by
    intro w; rw [← h]; exact bytes9_any a0 a2 a3 l0 c0 l2 c2 l2 c3 d w
  clear h
  go_enter Try.func5, Try.ntmps5
  go_wp2_with (go_at_call 9; refine (HB.out _).mono ?_; rintro e w' ⟨rfl, rfl⟩)
  go_ret
  exact ⟨rfl, Below.refl _ _⟩

set_option maxHeartbeats 400000 in
theorem pushOut_in (h : bytesB l0 l2 l2 = true) (g0 : l0 ≤ 65536) (g1 : l2 ≤ 65536) (g2 : 4 * l0 + 8 * l2 + 4 * l2 ≤ 1048576) (hd0 : 0 ≤ d) (hd : d < (l2 : Int))
    (h0 : Rd .u32 w a0 l0 zs) (hz : ∀ j, j < l0 → 0 ≤ zs.getD j 0 ∧ zs.getD j 0 < 4294967296) (hin : inB zs l2 = false) :
    Calls Try.prog 5 #[.slice a0 l0 c0, .int .u32 d, .slice a2 l2 c2, .slice a3 l2 c3] w fun e w' => e = .returned (.bool true) ∧ Below w.heap.size w w' := by
  have HB : Hid (∀ w, Calls Try.prog 9 #[.slice a0 l0 c0, .int .u32 d, .slice a2 l2 c2, .slice a3 l2 c3] w fun e w' => e = .returned (.bool true) ∧ w' = w) := by
    intro w; rw [← h]; exact bytes9_any a0 a2 a3 l0 c0 l2 c2 l2 c3 d w
  have HI : Hid (Calls Try.prog 10 #[.slice a0 l0 c0, .int .i64 l2] w fun e w' => e = .returned (.bool false) ∧ w' = w) := by
    show Calls _ _ _ _ _; rw [← hin]; exact inRange_any a0 l0 c0 l2 zs w h0 (by omega) (by omega) hz
  clear h h0 hz hin
  go_enter Try.func5, Try.ntmps5
  go_wp2_with (first | (go_at_call 9; refine (HB.out _).mono ?_; rintro e w' ⟨rfl, rfl⟩) | (go_at_call 10; refine HI.out.mono ?_; rintro e w' ⟨rfl, rfl⟩))
  go_ret
  exact ⟨rfl, Below.refl _ _⟩

set_option maxHeartbeats 400000 in
theorem pushOut_heap (h : bytesB l0 l2 l2 = true) (g0 : l0 ≤ 65536) (g1 : l2 ≤ 65536) (g2 : 4 * l0 + 8 * l2 + 4 * l2 ≤ 1048576) (hd0 : 0 ≤ d) (hd : d < (l2 : Int))
    (h0 : Rd .u32 w a0 l0 zs) (h2 : Rd .i64 w a2 l2 S) (h3 : Rd .i32 w a3 l2 N) (hz : ∀ j, j < l0 → 0 ≤ zs.getD j 0 ∧ zs.getD j 0 < (l2 : Int)) (hin : inB zs l2 = true) (hh : heapB (lat S N) zs l0 = false) :
    Calls Try.prog 5 #[.slice a0 l0 c0, .int .u32 d, .slice a2 l2 c2, .slice a3 l2 c3] w fun e w' => e = .returned (.bool true) ∧ Below w.heap.size w w' := by
  have HB : Hid (∀ w, Calls Try.prog 9 #[.slice a0 l0 c0, .int .u32 d, .slice a2 l2 c2, .slice a3 l2 c3] w fun e w' => e = .returned (.bool true) ∧ w' = w) := by
    intro w; rw [← h]; exact bytes9_any a0 a2 a3 l0 c0 l2 c2 l2 c3 d w
  have HI : Hid (Calls Try.prog 10 #[.slice a0 l0 c0, .int .i64 l2] w fun e w' => e = .returned (.bool true) ∧ w' = w) := by
    show Calls _ _ _ _ _; rw [← hin]; exact inRange_any a0 l0 c0 l2 zs w h0 (by omega) (by omega) (fun j hj => ⟨(hz j hj).1, by have := (hz j hj).2; omega⟩)
  have HH : Hid (Calls Try.prog 11 #[.slice a0 l0 c0, .slice a2 l2 c2, .slice a3 l2 c3] w fun e w' => e = .returned (.bool false) ∧ Below w.heap.size w w') := by
    show Calls _ _ _ _ _; rw [← hh]; exact isHeap_any a0 a2 a3 l0 c0 l2 c2 c3 zs S N w h0 h2 h3 (by omega) (by omega) hz
  clear h h0 h2 h3 hz hin hh
  go_enter Try.func5, Try.ntmps5
  go_wp2_with (first | (go_at_call 9; refine (HB.out _).mono ?_; rintro e w' ⟨rfl, rfl⟩) | (go_at_call 10; refine HI.out.mono ?_; rintro e w' ⟨rfl, rfl⟩) | (go_at_call 11; refine HH.out.mono ?_; rintro e w1 ⟨rfl, hb⟩))
  go_ret
  exact ⟨rfl, hb⟩
end Out


/-! ### the way through -/
set_option maxRecDepth 100000 in
set_option maxHeartbeats 1600000 in
theorem push_main (a0 a2 a3 : Option Addr) (l0 c0 l2 c2 c3 : Nat) (zs S N : List Int) (d : Int) (w : World)
    (h : bytesB l0 l2 l2 = true) (g0 : l0 ≤ 65536) (g1 : l2 ≤ 65536) (g2 : 4 * l0 + 8 * l2 + 4 * l2 ≤ 1048576) (hd0 : 0 ≤ d) (hd : d < (l2 : Int))
    (h0 : Rd .u32 w a0 l0 zs) (h2 : Rd .i64 w a2 l2 S) (h3 : Rd .i32 w a3 l2 N) (n0 : a0 = none → l0 = 0) (n2 : a2 = none → l2 = 0) (n3 : a3 = none → l2 = 0)
    (hz : ∀ j, j < l0 → 0 ≤ zs.getD j 0 ∧ zs.getD j 0 < (l2 : Int)) (hin : inB zs l2 = true) (hh : heapB (lat S N) zs l0 = true) :
    Calls Try.prog 5 #[.slice a0 l0 c0, .int .u32 d, .slice a2 l2 c2, .slice a3 l2 c3] w fun e w' => e = .returned (.bool true) ∧ Below w.heap.size w w' := by
  have HB : Hid (∀ w, Calls Try.prog 9 #[.slice a0 l0 c0, .int .u32 d, .slice a2 l2 c2, .slice a3 l2 c3] w fun e w' => e = .returned (.bool true) ∧ w' = w) := by
    intro w; rw [← h]; exact bytes9_any a0 a2 a3 l0 c0 l2 c2 l2 c3 d w
  have HI : Hid (Calls Try.prog 10 #[.slice a0 l0 c0, .int .i64 l2] w fun e w' => e = .returned (.bool true) ∧ w' = w) := by
    show Calls _ _ _ _ _; rw [← hin]; exact inRange_any a0 l0 c0 l2 zs w h0 (by omega) (by omega) (fun j hj => ⟨(hz j hj).1, by have := (hz j hj).2; omega⟩)
  have HH : Hid (Calls Try.prog 11 #[.slice a0 l0 c0, .slice a2 l2 c2, .slice a3 l2 c3] w fun e w' => e = .returned (.bool true) ∧ Below w.heap.size w w') := by
    show Calls _ _ _ _ _; rw [← hh]; exact isHeap_any a0 a2 a3 l0 c0 l2 c2 c3 zs S N w h0 h2 h3 (by omega) (by omega) hz
  have hl0 : Hid (zs.length = l0) := h0.1
  have HP : Hid (Heap.IsHeap (lat S N) zs) := by
    rw [← hl0.out] at hh; exact (heapB_iff _ _).1 hh
  have H0 : Hid (Rd .u32 w a0 l0 zs ∧ Rd .i64 w a2 l2 S ∧ Rd .i32 w a3 l2 N) := ⟨h0, h2, h3⟩
  have HZ : Hid (∀ j, j < l0 → 0 ≤ zs.getD j 0 ∧ zs.getD j 0 < (l2 : Int)) := hz
  have HN : Hid ((a0 = none → l0 = 0) ∧ (a2 = none → l2 = 0) ∧ (a3 = none → l2 = 0)) := ⟨n0, n2, n3⟩
  clear h h0 h2 h3 hz hin hh n0 n2 n3
  go_enter Try.func5, Try.ntmps5
  go_wp2_with (first | (go_at_call 9; refine (HB.out _).mono ?_; rintro e w' ⟨rfl, rfl⟩) | (go_at_call 10; refine HI.out.mono ?_; rintro e w' ⟨rfl, rfl⟩) | (go_at_call 11; refine HH.out.mono ?_; rintro e w1 ⟨rfl, hb⟩))
  clear HB HI HH
  -- the three copies
  refine (clone_any a0 l0 c0 zs w1 (H0.out.1.below hb) (by omega) HN.out.1).mono ?_
  rintro e w2 ⟨aq, cq, rfl, oq, hb2⟩
  go_wp2_with fail
  refine (clone64_any a2 l2 c2 S w2 (H0.out.2.1.below (hb.trans (hb2.mono hb.size))) (by omega) HN.out.2.1).mono ?_
  rintro e w3 ⟨aS, cS, rfl, oS, hb3⟩
  go_wp2_with fail
  have hb13 : Hid (Below w'.heap.size w' w3) := (hb.trans (hb2.mono hb.size)).trans (hb3.mono (Nat.le_trans hb.size hb2.size))
  refine (clone32_any a3 l2 c3 N w3 (H0.out.2.2.below hb13.out) (by omega) HN.out.2.2).mono ?_
  rintro e w4 ⟨aN, cN, rfl, oN, hb4⟩
  go_wp2_with fail
  -- how often each index occurs
  have oq4 : Hid (w4.ownsRow w1.heap.size 23 1 (.slice aq l0 cq) l0 (zs.map (Value.int .u32))) := owns_below (owns_below oq hb3) hb4
  have oS4 : Hid (w4.ownsRow w2.heap.size 2 1 (.slice aS l2 cS) l2 (S.map (Value.int .i64))) := owns_below oS hb4
  have oN4 : Hid (w4.ownsRow w3.heap.size 21 1 (.slice aN l2 cN) l2 (N.map (Value.int .i32))) := oN
  have hb14 : Hid (Below w'.heap.size w' w4) := hb13.out.trans (hb4.mono hb13.out.size)
  have apS : Hid ((Value.slice aS l2 cS).ownBlock = none ∨ (Value.slice aS l2 cS).ownBlock ≠ (Value.slice aq l0 cq).ownBlock) := apart_new oq oS (Nat.le_refl _)
  have apN : Hid ((Value.slice aN l2 cN).ownBlock = none ∨ (Value.slice aN l2 cN).ownBlock ≠ (Value.slice aq l0 cq).ownBlock) := apart_new oq oN hb3.size
  have sz1 : w1.heap.size ≤ w2.heap.size := hb2.size
  have sz2 : w2.heap.size ≤ w3.heap.size := hb3.size
  have sz3 : w3.heap.size ≤ w4.heap.size := hb4.size
  have sz0 : w'.heap.size ≤ w1.heap.size := hb.size
  clear oq oS oN hb hb2 hb3 hb4 hb13 H0 HN
  refine (count_any aq l0 cq l2 zs w4 (rd_of_owns oq4.out) (by omega) (by omega) HZ.out).mono ?_
  rintro e w5 ⟨rfl, oW, hb5⟩
  have sz4 : w4.heap.size ≤ w5.heap.size := hb5.size
  have OW : Hid (w5.ownsRow w4.heap.size 3 1 (.slice (some ⟨w4.heap.size, 0, none⟩) l2 l2) l2 ((cnt zs l2).map (Value.int .i64))) := oW
  have cw : w5.cell? ⟨w4.heap.size, d.toNat, none⟩ = some (.int .i64 ((cnt zs l2).getD d.toNat 0)) := by
    rw [oW.cellAt _ (by omega)]; exact getD_map_int _ _ _ (by rw [cnt_length]; omega)
  have fw := oW.frozenAt d.toNat
  have hx := cnt_le zs l2 d.toNat
  have HX : Hid (cnt (d :: zs) l2 = (cnt zs l2).set d.toNat ((cnt zs l2).getD d.toNat 0 + 1)) := by
    have := cnt_cons zs l2 d.toNat (by omega)
    rw [show ((d.toNat : Nat) : Int) = d by omega] at this
    exact this
  have hx1 := hx.1
  have hx2 : (cnt zs l2).getD d.toNat 0 ≤ 65536 := by have := hl0.out; have := hx.2; omega
  generalize (cnt zs l2).getD d.toNat 0 = x at *
  clear hx oW
  have HB5 : Hid (Below w4.heap.size w4 w5) := hb5
  clear hb5
  go_wp2_with fail
  obtain ⟨w6, hw6⟩ : ∃ w6, w6 = w5.setCell ⟨w4.heap.size, d.toNat, none⟩ (.int .i64 (x + 1)) := ⟨_, rfl⟩
  rw [← hw6]
  have F46 : Fr (fun k => k = w4.heap.size) w4 w6 := by rw [hw6]; exact (Fr.ofBelow (X := fun k => k = w4.heap.size) HB5.out).setCell (p := ⟨w4.heap.size, d.toNat, none⟩) (Or.inl rfl) _
  have oq6 : w6.ownsRow w1.heap.size 23 1 (.slice aq l0 cq) l0 (zs.map (Value.int .u32)) := owns_fr oq4.out F46 (fun k hk e => by have := (oq4.out.lt k hk).2; omega)
  have oS6 : w6.ownsRow w2.heap.size 2 1 (.slice aS l2 cS) l2 (S.map (Value.int .i64)) := owns_fr oS4.out F46 (fun k hk e => by have := (oS4.out.lt k hk).2; omega)
  have oN6 : w6.ownsRow w3.heap.size 21 1 (.slice aN l2 cN) l2 (N.map (Value.int .i32)) := owns_fr oN4.out F46 (fun k hk e => by have := (oN4.out.lt k hk).2; omega)
  have oW6 : w6.ownsRow w4.heap.size 3 1 (.slice (some ⟨w4.heap.size, 0, none⟩) l2 l2) l2 ((cnt (d :: zs) l2).map (Value.int .i64)) := by
    have := (OW.out.stored d.toNat (.int .i64 (x + 1))).1
    rw [← List.map_set, ← HX.out, ← hw6] at this
    exact this
  have b6 : Below w'.heap.size w' w6 := by rw [hw6]; exact (hb14.out.trans (HB5.out.mono hb14.out.size)).setCell (by show _ ≤ w4.heap.size; omega) _
  have sz6 : w4.heap.size ≤ w6.heap.size := F46.size
  have qlt : ∀ k, (Value.slice aq l0 cq).ownBlock = some k → k < w4.heap.size := fun k hk => (oq4.out.lt k hk).2
  have QLT : Hid (∀ k, (Value.slice aq l0 cq).ownBlock = some k → w1.heap.size ≤ k ∧ k < w4.heap.size) := fun k hk => ⟨(oq4.out.lt k hk).1, qlt k hk⟩
  clear qlt F46 hw6 HX cw fw hx1 hx2 OW HB5 hb14 oq4 oS4 oN4
  -- the deadlines
  refine (inst_any aS aN l2 cS cN S N w6 (rd_of_owns oS6) (rd_of_owns oN6) (by omega)).mono ?_
  rintro e w7 ⟨rfl, at7, hb7⟩
  have O7 : Hid (w7.ownsRow w1.heap.size 23 1 (.slice aq l0 cq) l0 (zs.map (Value.int .u32)) ∧ w7.ownsRow w2.heap.size 2 1 (.slice aS l2 cS) l2 (S.map (Value.int .i64)) ∧ w7.ownsRow w3.heap.size 21 1 (.slice aN l2 cN) l2 (N.map (Value.int .i32)) ∧
      w7.ownsRow w4.heap.size 3 1 (.slice (some ⟨w4.heap.size, 0, none⟩) l2 l2) l2 ((cnt (d :: zs) l2).map (Value.int .i64)) ∧ Ati w6.heap.size w7 (.slice (some ⟨w6.heap.size, 0, none⟩) l2 l2) l2 S N ∧ Below w'.heap.size w' w7) :=
    ⟨owns_below oq6 hb7, owns_below oS6 hb7, owns_below oN6 hb7, owns_below oW6 hb7, at7, b6.trans (hb7.mono b6.size)⟩
  have sz7 : w6.heap.size ≤ w7.heap.size := hb7.size
  clear oq6 oS6 oN6 oW6 at7 hb7 b6
  go_wp2_with fail
  -- the push
  have hzm : ∀ z ∈ zs, 0 ≤ z ∧ z < (l2 : Int) := mem_range (by rw [hl0.out]; exact HZ.out)
  have HZM : Hid (∀ z ∈ zs, 0 ≤ z ∧ z < (l2 : Int)) := hzm
  clear hzm HZ
  refine (zzpush_any w1.heap.size aq w6.heap.size l0 cq l2 l2 zs S N d w7 O7.out.1 (O7.out.2.2.2.2.1.mono (by omega)) (fun e => by have := (QLT.out _ e).2; omega) (by omega) (by omega) (by omega) HZM.out hd0 hd HP.out).mono ?_
  rintro e w8 ⟨g, cap', out, rfl, o8, hh8, hp8, hg8, gr8⟩
  have O8 : Hid (w8.ownsRow w2.heap.size 2 1 (.slice aS l2 cS) l2 (S.map (Value.int .i64)) ∧ w8.ownsRow w3.heap.size 21 1 (.slice aN l2 cN) l2 (N.map (Value.int .i32)) ∧
      w8.ownsRow w4.heap.size 3 1 (.slice (some ⟨w4.heap.size, 0, none⟩) l2 l2) l2 ((cnt (d :: zs) l2).map (Value.int .i64)) ∧ w8.ownsRow w1.heap.size 23 1 (.slice (some ⟨g, 0, none⟩) (l0 + 1) cap') (l0 + 1) (out.map (Value.int .u32)) ∧ Below w'.heap.size w' w8) := by
    refine ⟨O7.out.2.1.kept gr8 apS.out, O7.out.2.2.1.kept gr8 apN.out, O7.out.2.2.2.1.kept gr8 (Or.inr (fun e => ?_)), o8, O7.out.2.2.2.2.2.grown gr8 (by omega) (fun k hk => by have := (QLT.out k hk).1; omega)⟩
    have := (QLT.out w4.heap.size e.symm).2
    omega
  have HM : Hid (∀ z ∈ out, 0 ≤ z ∧ z < (l2 : Int)) := by
    intro z hz
    rcases List.mem_append.1 (hp8.mem_iff.1 hz) with h | h
    · exact HZM.out z h
    · simp at h; subst h; exact ⟨hd0, hd⟩
  have HL : Hid (out.length = l0 + 1) := by show _ = _; have := o8.1; simpa using this
  have HI : Hid (Calls Try.prog 10 #[.slice (some ⟨g, 0, none⟩) (l0 + 1) cap', .int .i64 l2] w8 fun e w' => e = .returned (.bool true) ∧ w' = w8) := by
    show Calls _ _ _ _ _
    rw [← (inB_iff out l2).2 (fun z hz => (HM.out z hz).2)]
    exact inRange_any _ _ _ _ out w8 (rd_of_owns o8) (by omega) (by omega) (fun j hj => by have := range_mem HM.out j (by rw [HL.out]; exact hj); omega)
  have HH : Hid (Calls Try.prog 11 #[.slice (some ⟨g, 0, none⟩) (l0 + 1) cap', .slice aS l2 cS, .slice aN l2 cN] w8 fun e w' => e = .returned (.bool true) ∧ Below w8.heap.size w8 w') := by
    show Calls _ _ _ _ _
    have e1 := (heapB_iff _ _).2 hh8
    rw [HL.out] at e1
    rw [← e1]
    exact isHeap_any _ _ _ _ _ _ _ _ out S N w8 (rd_of_owns o8) (rd_of_owns O8.out.1) (rd_of_owns O8.out.2.1) (by omega) (by omega) (fun j hj => range_mem HM.out j (by rw [HL.out]; exact hj))
  have HQ : Hid (cnt (d :: zs) l2 = cnt out l2) := cnt_perm ((List.perm_append_comm (l₁ := [d]) (l₂ := zs)).trans hp8.symm) l2
  clear o8 hh8 hp8 hg8 gr8 O7 HZM HP apS apN
  go_wp2_with fail
  refine HI.out.mono ?_
  rintro e w8' ⟨rfl, rfl⟩
  go_wp2_with fail
  refine HH.out.mono ?_
  rintro e w9 ⟨rfl, hb9⟩
  have R9 : Hid (Rd .u32 w9 (some ⟨g, 0, none⟩) (l0 + 1) out ∧ w9.ownsRow w4.heap.size 3 1 (.slice (some ⟨w4.heap.size, 0, none⟩) l2 l2) l2 ((cnt (d :: zs) l2).map (Value.int .i64)) ∧ Below w'.heap.size w' w9) :=
    ⟨(rd_of_owns O8.out.2.2.2.1).below hb9, owns_below O8.out.2.2.1 hb9, O8.out.2.2.2.2.trans (hb9.mono O8.out.2.2.2.2.size)⟩
  clear hb9 HI HH O8
  go_wp2_with fail
  refine (count_any _ (l0 + 1) cap' l2 out w9 R9.out.1 (by omega) (by omega) (fun j hj => range_mem HM.out j (by rw [HL.out]; exact hj))).mono ?_
  rintro e w10 ⟨rfl, o10, hb10⟩
  have O10 : Hid (w10.ownsRow w4.heap.size 3 1 (.slice (some ⟨w4.heap.size, 0, none⟩) l2 l2) l2 ((cnt out l2).map (Value.int .i64)) ∧ w10.ownsRow w9.heap.size 3 1 (.slice (some ⟨w9.heap.size, 0, none⟩) l2 l2) l2 ((cnt out l2).map (Value.int .i64)) ∧ Below w'.heap.size w' w10) := by
    refine ⟨?_, o10, R9.out.2.2.trans (hb10.mono R9.out.2.2.size)⟩
    rw [← HQ.out]
    exact owns_below R9.out.2.1 hb10
  clear o10 hb10 R9
  go_wp2_with fail
  refine (same_any _ _ l2 l2 l2 (cnt out l2) w10 (rd_of_owns O10.out.1) (rd_of_owns O10.out.2.1) (by omega)).mono ?_
  rintro e w11 ⟨rfl, hb11⟩
  have B11 : Hid (Below w'.heap.size w' w11) := O10.out.2.2.trans (hb11.mono O10.out.2.2.size)
  clear hb11
  go_wp2
  go_ret
  exact ⟨rfl, B11.out⟩

end Go.Proofs.Qxb6001001a
