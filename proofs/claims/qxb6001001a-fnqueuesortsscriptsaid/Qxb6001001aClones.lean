/-
  THE FUNCTIONS THAT MAKE MEMORY: zzClone (12), zzClone64 (13), zzClone32 (14).
-/
import Derived.Test.Qxb6001001aReads
import Derived.Lib.SliceRun
namespace Go.Proofs.Qxb6001001a
open Go.RowKit
set_option linter.unusedVariables false

theorem ext_getD {xs ys : List Int} {n : Nat} (h1 : xs.length = n) (h2 : ys.length = n) (h : ∀ j, j < n → xs.getD j 0 = ys.getD j 0) : xs = ys := by
  apply List.ext_getElem (by omega)
  intro i h3 h4
  have := h i (by omega)
  simpa [List.getD, h3, h4] using this

set_option maxHeartbeats 400000 in
theorem clone_nil (cap : Nat) (w : World) :
    Calls Try.prog 12 #[.slice none 0 cap] w fun e w' => e = .returned (.slice none 0 0) ∧ w' = w := by
  have hq := fun w => Lib.run_eql_slice_nil (P := Try.prog) w 28 23 none 0 cap 0 0 Try.underlying28
  simp only [Option.isNone_none] at hq
  go_enter Try.func12, Try.ntmps12
  go_wp2
  go_ret
  exact ⟨rfl, rfl⟩

set_option maxHeartbeats 400000 in
theorem clone_some (x : Addr) (n cap : Nat) (zs : List Int) (w : World) (h : Rd .u32 w (some x) n zs) (hn : n ≤ 1048576) :
    Calls Try.prog 12 #[.slice (some x) n cap] w fun e w' => e = .returned (.slice (some ⟨w.heap.size, 0, none⟩) n n) ∧
      w'.ownsRow w.heap.size 23 1 (.slice (some ⟨w.heap.size, 0, none⟩) n n) n (zs.map (Value.int .u32)) ∧ Below w.heap.size w w' := by
  have hq := fun w => Lib.run_eql_slice_nil (P := Try.prog) w 28 23 (some x) n cap 0 0 Try.underlying28
  simp only [Option.isNone_some] at hq
  obtain ⟨i0, hi, hz0, hz1, hz2⟩ := info_parts Try.info23
  go_enter Try.func12, Try.ntmps12
  go_wp2_with (at_make; refine wpList_make_full _ rfl _ _ 28 rfl w.heap.size 23 i0 (.int .u32 0) 1 Try.underlying28 hi hz0 hz1 _ _ _ _ n rfl rfl rfl rfl (by rw [hz2]; omega) (by unfold maxLen; omega) (Nat.le_refl _) ?_; intro w1 hown hgrow)
  have HO : Hid (∃ ys : List Int, ys.length = n ∧ w1.ownsRow w.heap.size 23 1 (.slice (some ⟨w.heap.size, 0, none⟩) n n) n (ys.map (Value.int .u32))) :=
    ⟨List.replicate n 0, by simp, by
      have e : (madeCells (Value.int .u32 0).cells (n * 1)).toList = (List.replicate n (0 : Int)).map (Value.int .u32) := by
        rw [show (Value.int .u32 0).cells = #[Value.int .u32 0] from rfl, toList_madeCells_one]; simp
      rw [e] at hown
      exact hown⟩
  have HB : Hid (Below w.heap.size w w1) := (Below.refl _ _).grown hgrow (Nat.le_refl _) (by simp)
  clear hown hgrow hi hz0 hz1 hz2 hq
  go_wp2
  go_loopw [4] (fun i wr => ∃ k : Nat, k ≤ n ∧ i = .int .i64 k ∧ Hid (Below w.heap.size w wr) ∧ Hid (∃ ys : List Int, ys.length = n ∧ (∀ j, j < k → ys.getD j 0 = zs.getD j 0) ∧ wr.ownsRow w.heap.size 23 1 (.slice (some ⟨w.heap.size, 0, none⟩) n n) n (ys.map (Value.int .u32)))) (fun i _ => n - (intOf i).toNat)
  case atStart =>
    obtain ⟨ys, h1, h2⟩ := HO
    exact ⟨0, Nat.zero_le _, rfl, HB, ys, h1, fun j hj => by omega, h2⟩
  case round =>
    obtain ⟨k, hk, rfl, HBr, HOr⟩ := hrel
    clear HO HB
    by_cases hlt : k < n
    · have h' := h.below HBr.out
      obtain ⟨b, off, hx, hc⟩ := h'.at k hlt
      simp only [Option.some.injEq] at hx
      subst hx
      have c1 := hc k hlt
      obtain ⟨ys, y1, y2, y3⟩ := HOr
      have c2 : wr.cell? ⟨w.heap.size, k, none⟩ = some (.int .u32 (ys.getD k 0)) := by
        rw [y3.cellAt k (by omega)]; simp [List.getD, show k < ys.length by omega]
      have f2 := y3.frozenAt k
      have HY : Hid (ys.length = n ∧ (∀ j, j < k → ys.getD j 0 = zs.getD j 0) ∧ wr.ownsRow w.heap.size 23 1 (.slice (some ⟨w.heap.size, 0, none⟩) n n) n (ys.map (Value.int .u32))) := ⟨y1, y2, y3⟩
      have HZ : Hid (∃ z, z = zs.getD k 0) := ⟨_, rfl⟩
      clear hc h' h y1 y2 y3
      generalize ys.getD k 0 = y at c2
      have hz : Hid (zs.getD k 0 = zs.getD k 0) := rfl
      generalize hzz : zs.getD k 0 = z at c1
      have HZ : Hid (zs.getD k 0 = z) := hzz
      clear hzz
      go_wp2
      go_roundw
      case rel =>
        obtain ⟨y1, y2, y3⟩ := HY
        refine ⟨k + 1, by omega, by go_num, Below.setCell HBr.out (Nat.le_refl _) _, ys.set k z, by simpa using y1, ?_, ?_⟩
        · intro j hj
          rw [Heap.getD_set]
          by_cases e : k = j
          · subst e; rw [if_pos ⟨rfl, by omega⟩]; exact HZ.out.symm
          · rw [if_neg (fun h => e h.1)]; exact y2 j (by omega)
        · have := (y3.stored k (Value.int .u32 z)).1
          rw [← List.map_set] at this
          exact this
      case measure => simp [intOf]; omega
    · have h1 := h.1
      clear h
      go_wp2
      go_ret
      refine ⟨rfl, ?_, HBr.out⟩
      obtain ⟨ys, y1, y2, y3⟩ := HOr
      have e : ys = zs := ext_getD y1 h1 (fun j hj => y2 j (by omega))
      rw [← e]; exact y3

/-- A copy: new memory that holds the same numbers; nothing old has turned. -/
theorem clone_any (a : Option Addr) (n cap : Nat) (zs : List Int) (w : World) (h : Rd .u32 w a n zs) (hn : n ≤ 1048576) (ha : a = none → n = 0) :
    Calls Try.prog 12 #[.slice a n cap] w fun e w' => ∃ a' cap', e = .returned (.slice a' n cap') ∧
      w'.ownsRow w.heap.size 23 1 (.slice a' n cap') n (zs.map (Value.int .u32)) ∧ Below w.heap.size w w' := by
  cases a with
  | none =>
    have h0 := ha rfl
    have hz : zs = [] := List.eq_nil_of_length_eq_zero (by rw [h.1, h0])
    subst hz; subst h0
    exact (clone_nil cap w).mono fun e w' ⟨he, hw⟩ => ⟨none, 0, he, by subst hw; exact World.ownsRow_nil _ _ _ _, by subst hw; exact Below.refl _ _⟩
  | some x => exact (clone_some x n cap zs w h hn).mono fun e w' ⟨he, ho, hb⟩ => ⟨_, _, he, ho, hb⟩

set_option maxHeartbeats 400000 in
theorem clone64_nil (cap : Nat) (w : World) :
    Calls Try.prog 13 #[.slice none 0 cap] w fun e w' => e = .returned (.slice none 0 0) ∧ w' = w := by
  have hq := fun w => Lib.run_eql_slice_nil (P := Try.prog) w 29 2 none 0 cap 0 0 Try.underlying29
  simp only [Option.isNone_none] at hq
  go_enter Try.func13, Try.ntmps13
  go_wp2
  go_ret
  exact ⟨rfl, rfl⟩

set_option maxHeartbeats 400000 in
theorem clone64_some (x : Addr) (n cap : Nat) (zs : List Int) (w : World) (h : Rd .i64 w (some x) n zs) (hn : n ≤ 1048576) :
    Calls Try.prog 13 #[.slice (some x) n cap] w fun e w' => e = .returned (.slice (some ⟨w.heap.size, 0, none⟩) n n) ∧
      w'.ownsRow w.heap.size 2 1 (.slice (some ⟨w.heap.size, 0, none⟩) n n) n (zs.map (Value.int .i64)) ∧ Below w.heap.size w w' := by
  have hq := fun w => Lib.run_eql_slice_nil (P := Try.prog) w 29 2 (some x) n cap 0 0 Try.underlying29
  simp only [Option.isNone_some] at hq
  obtain ⟨i0, hi, hz0, hz1, hz2⟩ := info_parts Try.info2
  go_enter Try.func13, Try.ntmps13
  go_wp2_with (at_make; refine wpList_make_full _ rfl _ _ 29 rfl w.heap.size 2 i0 (.int .i64 0) 1 Try.underlying29 hi hz0 hz1 _ _ _ _ n rfl rfl rfl rfl (by rw [hz2]; omega) (by unfold maxLen; omega) (Nat.le_refl _) ?_; intro w1 hown hgrow)
  have HO : Hid (∃ ys : List Int, ys.length = n ∧ w1.ownsRow w.heap.size 2 1 (.slice (some ⟨w.heap.size, 0, none⟩) n n) n (ys.map (Value.int .i64))) :=
    ⟨List.replicate n 0, by simp, by
      have e : (madeCells (Value.int .i64 0).cells (n * 1)).toList = (List.replicate n (0 : Int)).map (Value.int .i64) := by
        rw [show (Value.int .i64 0).cells = #[Value.int .i64 0] from rfl, toList_madeCells_one]; simp
      rw [e] at hown
      exact hown⟩
  have HB : Hid (Below w.heap.size w w1) := (Below.refl _ _).grown hgrow (Nat.le_refl _) (by simp)
  clear hown hgrow hi hz0 hz1 hz2 hq
  go_wp2
  go_loopw [4] (fun i wr => ∃ k : Nat, k ≤ n ∧ i = .int .i64 k ∧ Hid (Below w.heap.size w wr) ∧ Hid (∃ ys : List Int, ys.length = n ∧ (∀ j, j < k → ys.getD j 0 = zs.getD j 0) ∧ wr.ownsRow w.heap.size 2 1 (.slice (some ⟨w.heap.size, 0, none⟩) n n) n (ys.map (Value.int .i64)))) (fun i _ => n - (intOf i).toNat)
  case atStart =>
    obtain ⟨ys, h1, h2⟩ := HO
    exact ⟨0, Nat.zero_le _, rfl, HB, ys, h1, fun j hj => by omega, h2⟩
  case round =>
    obtain ⟨k, hk, rfl, HBr, HOr⟩ := hrel
    clear HO HB
    by_cases hlt : k < n
    · have h' := h.below HBr.out
      obtain ⟨b, off, hx, hc⟩ := h'.at k hlt
      simp only [Option.some.injEq] at hx
      subst hx
      have c1 := hc k hlt
      obtain ⟨ys, y1, y2, y3⟩ := HOr
      have c2 : wr.cell? ⟨w.heap.size, k, none⟩ = some (.int .i64 (ys.getD k 0)) := by
        rw [y3.cellAt k (by omega)]; simp [List.getD, show k < ys.length by omega]
      have f2 := y3.frozenAt k
      have HY : Hid (ys.length = n ∧ (∀ j, j < k → ys.getD j 0 = zs.getD j 0) ∧ wr.ownsRow w.heap.size 2 1 (.slice (some ⟨w.heap.size, 0, none⟩) n n) n (ys.map (Value.int .i64))) := ⟨y1, y2, y3⟩
      have HZ : Hid (∃ z, z = zs.getD k 0) := ⟨_, rfl⟩
      clear hc h' h y1 y2 y3
      generalize ys.getD k 0 = y at c2
      have hz : Hid (zs.getD k 0 = zs.getD k 0) := rfl
      generalize hzz : zs.getD k 0 = z at c1
      have HZ : Hid (zs.getD k 0 = z) := hzz
      clear hzz
      go_wp2
      go_roundw
      case rel =>
        obtain ⟨y1, y2, y3⟩ := HY
        refine ⟨k + 1, by omega, by go_num, Below.setCell HBr.out (Nat.le_refl _) _, ys.set k z, by simpa using y1, ?_, ?_⟩
        · intro j hj
          rw [Heap.getD_set]
          by_cases e : k = j
          · subst e; rw [if_pos ⟨rfl, by omega⟩]; exact HZ.out.symm
          · rw [if_neg (fun h => e h.1)]; exact y2 j (by omega)
        · have := (y3.stored k (Value.int .i64 z)).1
          rw [← List.map_set] at this
          exact this
      case measure => simp [intOf]; omega
    · have h1 := h.1
      clear h
      go_wp2
      go_ret
      refine ⟨rfl, ?_, HBr.out⟩
      obtain ⟨ys, y1, y2, y3⟩ := HOr
      have e : ys = zs := ext_getD y1 h1 (fun j hj => y2 j (by omega))
      rw [← e]; exact y3

/-- A copy: new memory that holds the same numbers; nothing old has turned. -/
theorem clone64_any (a : Option Addr) (n cap : Nat) (zs : List Int) (w : World) (h : Rd .i64 w a n zs) (hn : n ≤ 1048576) (ha : a = none → n = 0) :
    Calls Try.prog 13 #[.slice a n cap] w fun e w' => ∃ a' cap', e = .returned (.slice a' n cap') ∧
      w'.ownsRow w.heap.size 2 1 (.slice a' n cap') n (zs.map (Value.int .i64)) ∧ Below w.heap.size w w' := by
  cases a with
  | none =>
    have h0 := ha rfl
    have hz : zs = [] := List.eq_nil_of_length_eq_zero (by rw [h.1, h0])
    subst hz; subst h0
    exact (clone64_nil cap w).mono fun e w' ⟨he, hw⟩ => ⟨none, 0, he, by subst hw; exact World.ownsRow_nil _ _ _ _, by subst hw; exact Below.refl _ _⟩
  | some x => exact (clone64_some x n cap zs w h hn).mono fun e w' ⟨he, ho, hb⟩ => ⟨_, _, he, ho, hb⟩

set_option maxHeartbeats 400000 in
theorem clone32_nil (cap : Nat) (w : World) :
    Calls Try.prog 14 #[.slice none 0 cap] w fun e w' => e = .returned (.slice none 0 0) ∧ w' = w := by
  have hq := fun w => Lib.run_eql_slice_nil (P := Try.prog) w 30 21 none 0 cap 0 0 Try.underlying30
  simp only [Option.isNone_none] at hq
  go_enter Try.func14, Try.ntmps14
  go_wp2
  go_ret
  exact ⟨rfl, rfl⟩

set_option maxHeartbeats 400000 in
theorem clone32_some (x : Addr) (n cap : Nat) (zs : List Int) (w : World) (h : Rd .i32 w (some x) n zs) (hn : n ≤ 1048576) :
    Calls Try.prog 14 #[.slice (some x) n cap] w fun e w' => e = .returned (.slice (some ⟨w.heap.size, 0, none⟩) n n) ∧
      w'.ownsRow w.heap.size 21 1 (.slice (some ⟨w.heap.size, 0, none⟩) n n) n (zs.map (Value.int .i32)) ∧ Below w.heap.size w w' := by
  have hq := fun w => Lib.run_eql_slice_nil (P := Try.prog) w 30 21 (some x) n cap 0 0 Try.underlying30
  simp only [Option.isNone_some] at hq
  obtain ⟨i0, hi, hz0, hz1, hz2⟩ := info_parts Try.info21
  go_enter Try.func14, Try.ntmps14
  go_wp2_with (at_make; refine wpList_make_full _ rfl _ _ 30 rfl w.heap.size 21 i0 (.int .i32 0) 1 Try.underlying30 hi hz0 hz1 _ _ _ _ n rfl rfl rfl rfl (by rw [hz2]; omega) (by unfold maxLen; omega) (Nat.le_refl _) ?_; intro w1 hown hgrow)
  have HO : Hid (∃ ys : List Int, ys.length = n ∧ w1.ownsRow w.heap.size 21 1 (.slice (some ⟨w.heap.size, 0, none⟩) n n) n (ys.map (Value.int .i32))) :=
    ⟨List.replicate n 0, by simp, by
      have e : (madeCells (Value.int .i32 0).cells (n * 1)).toList = (List.replicate n (0 : Int)).map (Value.int .i32) := by
        rw [show (Value.int .i32 0).cells = #[Value.int .i32 0] from rfl, toList_madeCells_one]; simp
      rw [e] at hown
      exact hown⟩
  have HB : Hid (Below w.heap.size w w1) := (Below.refl _ _).grown hgrow (Nat.le_refl _) (by simp)
  clear hown hgrow hi hz0 hz1 hz2 hq
  go_wp2
  go_loopw [4] (fun i wr => ∃ k : Nat, k ≤ n ∧ i = .int .i64 k ∧ Hid (Below w.heap.size w wr) ∧ Hid (∃ ys : List Int, ys.length = n ∧ (∀ j, j < k → ys.getD j 0 = zs.getD j 0) ∧ wr.ownsRow w.heap.size 21 1 (.slice (some ⟨w.heap.size, 0, none⟩) n n) n (ys.map (Value.int .i32)))) (fun i _ => n - (intOf i).toNat)
  case atStart =>
    obtain ⟨ys, h1, h2⟩ := HO
    exact ⟨0, Nat.zero_le _, rfl, HB, ys, h1, fun j hj => by omega, h2⟩
  case round =>
    obtain ⟨k, hk, rfl, HBr, HOr⟩ := hrel
    clear HO HB
    by_cases hlt : k < n
    · have h' := h.below HBr.out
      obtain ⟨b, off, hx, hc⟩ := h'.at k hlt
      simp only [Option.some.injEq] at hx
      subst hx
      have c1 := hc k hlt
      obtain ⟨ys, y1, y2, y3⟩ := HOr
      have c2 : wr.cell? ⟨w.heap.size, k, none⟩ = some (.int .i32 (ys.getD k 0)) := by
        rw [y3.cellAt k (by omega)]; simp [List.getD, show k < ys.length by omega]
      have f2 := y3.frozenAt k
      have HY : Hid (ys.length = n ∧ (∀ j, j < k → ys.getD j 0 = zs.getD j 0) ∧ wr.ownsRow w.heap.size 21 1 (.slice (some ⟨w.heap.size, 0, none⟩) n n) n (ys.map (Value.int .i32))) := ⟨y1, y2, y3⟩
      have HZ : Hid (∃ z, z = zs.getD k 0) := ⟨_, rfl⟩
      clear hc h' h y1 y2 y3
      generalize ys.getD k 0 = y at c2
      have hz : Hid (zs.getD k 0 = zs.getD k 0) := rfl
      generalize hzz : zs.getD k 0 = z at c1
      have HZ : Hid (zs.getD k 0 = z) := hzz
      clear hzz
      go_wp2
      go_roundw
      case rel =>
        obtain ⟨y1, y2, y3⟩ := HY
        refine ⟨k + 1, by omega, by go_num, Below.setCell HBr.out (Nat.le_refl _) _, ys.set k z, by simpa using y1, ?_, ?_⟩
        · intro j hj
          rw [Heap.getD_set]
          by_cases e : k = j
          · subst e; rw [if_pos ⟨rfl, by omega⟩]; exact HZ.out.symm
          · rw [if_neg (fun h => e h.1)]; exact y2 j (by omega)
        · have := (y3.stored k (Value.int .i32 z)).1
          rw [← List.map_set] at this
          exact this
      case measure => simp [intOf]; omega
    · have h1 := h.1
      clear h
      go_wp2
      go_ret
      refine ⟨rfl, ?_, HBr.out⟩
      obtain ⟨ys, y1, y2, y3⟩ := HOr
      have e : ys = zs := ext_getD y1 h1 (fun j hj => y2 j (by omega))
      rw [← e]; exact y3

/-- A copy: new memory that holds the same numbers; nothing old has turned. -/
theorem clone32_any (a : Option Addr) (n cap : Nat) (zs : List Int) (w : World) (h : Rd .i32 w a n zs) (hn : n ≤ 1048576) (ha : a = none → n = 0) :
    Calls Try.prog 14 #[.slice a n cap] w fun e w' => ∃ a' cap', e = .returned (.slice a' n cap') ∧
      w'.ownsRow w.heap.size 21 1 (.slice a' n cap') n (zs.map (Value.int .i32)) ∧ Below w.heap.size w w' := by
  cases a with
  | none =>
    have h0 := ha rfl
    have hz : zs = [] := List.eq_nil_of_length_eq_zero (by rw [h.1, h0])
    subst hz; subst h0
    exact (clone32_nil cap w).mono fun e w' ⟨he, hw⟩ => ⟨none, 0, he, by subst hw; exact World.ownsRow_nil _ _ _ _, by subst hw; exact Below.refl _ _⟩
  | some x => exact (clone32_some x n cap zs w h hn).mono fun e w' ⟨he, ho, hb⟩ => ⟨_, _, he, ho, hb⟩

end Go.Proofs.Qxb6001001a
