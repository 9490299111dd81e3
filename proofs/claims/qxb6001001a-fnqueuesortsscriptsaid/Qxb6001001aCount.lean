/-
  zzCount (15): how often each index occurs.
-/
import Derived.Test.Qxb6001001aClones
namespace Go.Proofs.Qxb6001001a
open Go.RowKit
set_option linter.unusedVariables false

theorem getD_map_int (k : IntKind) (ys : List Int) (j : Nat) (h : j < ys.length) : (ys.map (Value.int k))[j]? = some (Value.int k (ys.getD j 0)) := by
  simp [List.getD, h]

theorem take_snoc (zs : List Int) (k : Nat) (h : k < zs.length) : zs.take (k + 1) = zs.take k ++ [zs.getD k 0] := by
  rw [List.take_succ_eq_append_getElem h]
  simp [List.getD, h]

set_option maxHeartbeats 400000 in
theorem count_any (a : Option Addr) (len cap n : Nat) (zs : List Int) (w : World) (h : Rd .u32 w a len zs) (hl : len ≤ 1048576) (hn : n ≤ 1048576) (hz : ∀ j, j < len → 0 ≤ zs.getD j 0 ∧ zs.getD j 0 < (n : Int)) :
    Calls Try.prog 15 #[.slice a len cap, .int .i64 n] w fun e w' => e = .returned (.slice (some ⟨w.heap.size, 0, none⟩) n n) ∧
      w'.ownsRow w.heap.size 3 1 (.slice (some ⟨w.heap.size, 0, none⟩) n n) n ((cnt zs n).map (Value.int .i64)) ∧ Below w.heap.size w w' := by
  obtain ⟨i0, hi, hz0, hz1, hz2⟩ := info_parts Try.info3
  go_enter Try.func15, Try.ntmps15
  go_wp2_with (at_make; refine wpList_make_full _ rfl _ _ 37 rfl w.heap.size 3 i0 (.int .i64 0) 1 Try.underlying37 hi hz0 hz1 _ _ _ _ n rfl rfl rfl rfl (by rw [hz2]; omega) (by unfold maxLen; omega) (Nat.le_refl _) ?_; intro w1 hown hgrow)
  have HO : Hid (w1.ownsRow w.heap.size 3 1 (.slice (some ⟨w.heap.size, 0, none⟩) n n) n ((cnt (zs.take 0) n).map (Value.int .i64))) := by
      have e : (madeCells (Value.int .i64 0).cells (n * 1)).toList = (cnt (zs.take 0) n).map (Value.int .i64) := by
        rw [show (Value.int .i64 0).cells = #[Value.int .i64 0] from rfl, toList_madeCells_one, List.take_zero, cnt_nil]; simp
      rw [e] at hown
      exact hown
  have HB : Hid (Below w.heap.size w w1) := (Below.refl _ _).grown hgrow (Nat.le_refl _) (by simp)
  clear hown hgrow hi hz0 hz1 hz2
  go_wp2
  go_loopw [6] (fun i wr => ∃ k : Nat, k ≤ len ∧ i = .int .i64 k ∧ Hid (Below w.heap.size w wr) ∧ Hid (wr.ownsRow w.heap.size 3 1 (.slice (some ⟨w.heap.size, 0, none⟩) n n) n ((cnt (zs.take k) n).map (Value.int .i64)))) (fun i _ => len - (intOf i).toNat)
  case atStart => exact ⟨0, Nat.zero_le _, rfl, HB, HO⟩
  case round =>
    obtain ⟨k, hk, rfl, HBr, HOr⟩ := hrel
    clear HO HB
    by_cases hlt : k < len
    · have h' := h.below HBr.out
      obtain ⟨b, off, rfl, hc⟩ := h'.at k hlt
      have c1 := hc k hlt
      obtain ⟨z0, z1⟩ := hz k hlt
      have ht := take_snoc zs k (by rw [h.1]; exact hlt)
      have hb := cnt_le (zs.take k) n (zs.getD k 0).toNat
      have hl2 : (zs.take k).length ≤ k := List.length_take_le _ _
      have c2 : wr.cell? ⟨w.heap.size, (zs.getD k 0).toNat, none⟩ = some (.int .i64 ((cnt (zs.take k) n).getD (zs.getD k 0).toNat 0)) := by
        rw [HOr.out.cellAt _ (by omega)]; exact getD_map_int _ _ _ (by rw [cnt_length]; omega)
      have f2 := HOr.out.frozenAt (zs.getD k 0).toNat
      have HS : Hid (cnt (zs.take (k + 1)) n = (cnt (zs.take k) n).set (zs.getD k 0).toNat ((cnt (zs.take k) n).getD (zs.getD k 0).toNat 0 + 1)) := by
        show _ = _
        rw [ht]
        have := cnt_snoc (zs.take k) n (zs.getD k 0).toNat (by omega)
        rw [show (((zs.getD k 0).toNat : Nat) : Int) = zs.getD k 0 by omega] at this
        exact this
      clear h' hc h hz ht
      generalize zs.getD k 0 = z at *
      have hb1 := hb.1
      have hb2 : (cnt (zs.take k) n).getD z.toNat 0 ≤ 1048576 := by omega
      clear hb
      generalize (cnt (zs.take k) n).getD z.toNat 0 = x at *
      go_wp2
      go_roundw
      case rel =>
        refine ⟨k + 1, by omega, by go_num, Below.setCell HBr.out (Nat.le_refl _) _, ?_⟩
        have := (HOr.out.stored z.toNat (Value.int .i64 (x + 1))).1
        rw [← List.map_set, ← HS.out] at this
        exact this
      case measure => simp [intOf]; omega
    · have h1 := h.1
      clear h hz
      go_wp2
      go_ret
      refine ⟨rfl, ?_, HBr.out⟩
      have := HOr.out
      rw [List.take_of_length_le (by omega)] at this
      exact this
end Go.Proofs.Qxb6001001a
