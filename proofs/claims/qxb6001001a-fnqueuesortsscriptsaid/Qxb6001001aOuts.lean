/-
  FnPopTakesSoonest (6) and FnQueueSortsScript (7): THE WAYS ON WHICH THEY SAY true AT ONCE.
-/
import Derived.Test.Qxb6001001aPushLaw
import Derived.Test.Qxb6001001aZzPop
namespace Go.Proofs.Qxb6001001a
open Go.RowKit
set_option linter.unusedVariables false

set_option maxRecDepth 100000 in
set_option maxHeartbeats 1000000 in
theorem bytes19_any (a0 a2 a3 : Option Addr) (l0 c0 l2 c2 l3 c3 : Nat) (w : World) :
    Calls Try.prog 19 #[.slice a0 l0 c0, .slice a2 l2 c2, .slice a3 l3 c3] w fun e w' => e = .returned (.bool (bytesB l0 l2 l3)) ∧ w' = w := by
  by_cases h0 : l0 ≤ 1048576
  · by_cases h1 : l2 ≤ 1048576
    · by_cases h2 : l0 + l2 ≤ 1048576
      · by_cases h3 : l3 ≤ 1048576
        · by_cases h4 : l0 + l2 + l3 ≤ 1048576
          · have HS : Hid (bytesB l0 l2 l3 = true) := decide_eq_true h4
            go_enter Try.func19, Try.ntmps19
            go_wp2
            go_ret
            exact ⟨by rw [HS.out]; rfl, rfl⟩
          · have HS : Hid (bytesB l0 l2 l3 = false) := decide_eq_false h4
            go_enter Try.func19, Try.ntmps19
            go_wp2
            go_ret
            exact ⟨by rw [HS.out]; rfl, rfl⟩
        · have HS : Hid (bytesB l0 l2 l3 = false) := decide_eq_false (by omega)
          go_enter Try.func19, Try.ntmps19
          go_wp2
          go_ret
          exact ⟨by rw [HS.out]; rfl, rfl⟩
      · have HS : Hid (bytesB l0 l2 l3 = false) := decide_eq_false (by omega)
        go_enter Try.func19, Try.ntmps19
        go_wp2
        go_ret
        exact ⟨by rw [HS.out]; rfl, rfl⟩
    · have HS : Hid (bytesB l0 l2 l3 = false) := decide_eq_false (by omega)
      go_enter Try.func19, Try.ntmps19
      go_wp2
      go_ret
      exact ⟨by rw [HS.out]; rfl, rfl⟩
  · have HS : Hid (bytesB l0 l2 l3 = false) := decide_eq_false (by omega)
    go_enter Try.func19, Try.ntmps19
    go_wp2
    go_ret
    exact ⟨by rw [HS.out]; rfl, rfl⟩

set_option maxRecDepth 100000 in
set_option maxHeartbeats 1000000 in
theorem bytes22_any (a0 a2 a3 : Option Addr) (l0 c0 l2 c2 l3 c3 : Nat) (w : World) :
    Calls Try.prog 22 #[.slice a0 l0 c0, .slice a2 l2 c2, .slice a3 l3 c3] w fun e w' => e = .returned (.bool (bytesB l0 l2 l3)) ∧ w' = w := by
  by_cases h0 : l0 ≤ 1048576
  · by_cases h1 : l2 ≤ 1048576
    · by_cases h2 : l0 + l2 ≤ 1048576
      · by_cases h3 : l3 ≤ 1048576
        · by_cases h4 : l0 + l2 + l3 ≤ 1048576
          · have HS : Hid (bytesB l0 l2 l3 = true) := decide_eq_true h4
            go_enter Try.func22, Try.ntmps22
            go_wp2
            go_ret
            exact ⟨by rw [HS.out]; rfl, rfl⟩
          · have HS : Hid (bytesB l0 l2 l3 = false) := decide_eq_false h4
            go_enter Try.func22, Try.ntmps22
            go_wp2
            go_ret
            exact ⟨by rw [HS.out]; rfl, rfl⟩
        · have HS : Hid (bytesB l0 l2 l3 = false) := decide_eq_false (by omega)
          go_enter Try.func22, Try.ntmps22
          go_wp2
          go_ret
          exact ⟨by rw [HS.out]; rfl, rfl⟩
      · have HS : Hid (bytesB l0 l2 l3 = false) := decide_eq_false (by omega)
        go_enter Try.func22, Try.ntmps22
        go_wp2
        go_ret
        exact ⟨by rw [HS.out]; rfl, rfl⟩
    · have HS : Hid (bytesB l0 l2 l3 = false) := decide_eq_false (by omega)
      go_enter Try.func22, Try.ntmps22
      go_wp2
      go_ret
      exact ⟨by rw [HS.out]; rfl, rfl⟩
  · have HS : Hid (bytesB l0 l2 l3 = false) := decide_eq_false (by omega)
    go_enter Try.func22, Try.ntmps22
    go_wp2
    go_ret
    exact ⟨by rw [HS.out]; rfl, rfl⟩

section Outpop
variable (a0 a2 a3 : Option Addr) (l0 c0 l2 c2 l3 c3 : Nat) (zs S N : List Int) (w : World)

set_option maxRecDepth 100000 in
set_option maxHeartbeats 1000000 in
theorem popOut_bytes (h : bytesB l0 l2 l3 = false) :
    Calls Try.prog 6 #[.slice a0 l0 c0, .slice a2 l2 c2, .slice a3 l3 c3] w fun e w' => e = .returned (.bool true) ∧ Below w.heap.size w w' := by
  have HB : Hid (∀ w, Calls Try.prog 19 #[.slice a0 l0 c0, .slice a2 l2 c2, .slice a3 l3 c3] w fun e w' => e = .returned (.bool false) ∧ w' = w) := by
    intro w; rw [← h]; exact bytes19_any a0 a2 a3 l0 c0 l2 c2 l3 c3 w
  clear h
  go_enter Try.func6, Try.ntmps6
  go_wp2_with (go_at_call 19; refine (HB.out _).mono ?_; rintro e w' ⟨rfl, rfl⟩)
  go_ret
  exact ⟨rfl, Below.refl _ _⟩

set_option maxRecDepth 100000 in
set_option maxHeartbeats 1000000 in
theorem popOut_len (h : bytesB l0 l2 l3 = true) (h2 : 65536 < l0 ∨ 65536 < l2 ∨ 65536 < l3 ∨ 1048576 < 4 * l0 + 8 * l2 + 4 * l3 ∨ l2 ≠ l3) :
    Calls Try.prog 6 #[.slice a0 l0 c0, .slice a2 l2 c2, .slice a3 l3 c3] w fun e w' => e = .returned (.bool true) ∧ Below w.heap.size w w' := by
  have HB : Hid (∀ w, Calls Try.prog 19 #[.slice a0 l0 c0, .slice a2 l2 c2, .slice a3 l3 c3] w fun e w' => e = .returned (.bool true) ∧ w' = w) := by
    intro w; rw [← h]; exact bytes19_any a0 a2 a3 l0 c0 l2 c2 l3 c3 w
  have hb : l0 + l2 + l3 ≤ 1048576 := by simpa [bytesB] using h
  clear h
  by_cases g0 : 65536 < l0
  · clear h2
    go_enter Try.func6, Try.ntmps6
    go_wp2_with (go_at_call 19; refine (HB.out _).mono ?_; rintro e w' ⟨rfl, rfl⟩)
    go_ret
    exact ⟨rfl, Below.refl _ _⟩
  · by_cases g1 : 65536 < l2
    · clear h2
      go_enter Try.func6, Try.ntmps6
      go_wp2_with (go_at_call 19; refine (HB.out _).mono ?_; rintro e w' ⟨rfl, rfl⟩)
      go_ret
      exact ⟨rfl, Below.refl _ _⟩
    · by_cases g2 : 65536 < l3
      · clear h2
        go_enter Try.func6, Try.ntmps6
        go_wp2_with (go_at_call 19; refine (HB.out _).mono ?_; rintro e w' ⟨rfl, rfl⟩)
        go_ret
        exact ⟨rfl, Below.refl _ _⟩
      · by_cases g3 : 1048576 < 4 * l0 + 8 * l2 + 4 * l3
        · exact absurd g3 (by omega)
        · have g4 : ((l2 : Int) == (l3 : Int)) = false := by simp; omega
          clear h2
          go_enter Try.func6, Try.ntmps6
          go_wp2_with (go_at_call 19; refine (HB.out _).mono ?_; rintro e w' ⟨rfl, rfl⟩)
          go_ret
          exact ⟨rfl, Below.refl _ _⟩

set_option maxRecDepth 100000 in
set_option maxHeartbeats 1000000 in
theorem popOut_in (h : bytesB l0 l2 l2 = true) (g0 : l0 ≤ 65536) (g1 : l2 ≤ 65536) (g2 : 4 * l0 + 8 * l2 + 4 * l2 ≤ 1048576) (nz : ((l0 : Int) == 0) = false)
    (h0 : Rd .u32 w a0 l0 zs) (hz : ∀ j, j < l0 → 0 ≤ zs.getD j 0 ∧ zs.getD j 0 < 4294967296) (hin : inB zs l2 = false) :
    Calls Try.prog 6 #[.slice a0 l0 c0, .slice a2 l2 c2, .slice a3 l2 c3] w fun e w' => e = .returned (.bool true) ∧ Below w.heap.size w w' := by
  have HB : Hid (∀ w, Calls Try.prog 19 #[.slice a0 l0 c0, .slice a2 l2 c2, .slice a3 l2 c3] w fun e w' => e = .returned (.bool true) ∧ w' = w) := by
    intro w; rw [← h]; exact bytes19_any a0 a2 a3 l0 c0 l2 c2 l2 c3 w
  have HI : Hid (Calls Try.prog 10 #[.slice a0 l0 c0, .int .i64 l2] w fun e w' => e = .returned (.bool false) ∧ w' = w) := by
    show Calls _ _ _ _ _; rw [← hin]; exact inRange_any a0 l0 c0 l2 zs w h0 (by omega) (by omega) hz
  clear h h0 hz hin
  go_enter Try.func6, Try.ntmps6
  go_wp2_with (first | (go_at_call 19; refine (HB.out _).mono ?_; rintro e w' ⟨rfl, rfl⟩) | (go_at_call 10; refine HI.out.mono ?_; rintro e w' ⟨rfl, rfl⟩))
  go_ret
  exact ⟨rfl, Below.refl _ _⟩
end Outpop

section Outqueue
variable (a0 a2 a3 : Option Addr) (l0 c0 l2 c2 l3 c3 : Nat) (zs S N : List Int) (w : World)

set_option maxRecDepth 100000 in
set_option maxHeartbeats 1000000 in
theorem queueOut_bytes (h : bytesB l0 l2 l3 = false) :
    Calls Try.prog 7 #[.slice a0 l0 c0, .slice a2 l2 c2, .slice a3 l3 c3] w fun e w' => e = .returned (.bool true) ∧ Below w.heap.size w w' := by
  have HB : Hid (∀ w, Calls Try.prog 22 #[.slice a0 l0 c0, .slice a2 l2 c2, .slice a3 l3 c3] w fun e w' => e = .returned (.bool false) ∧ w' = w) := by
    intro w; rw [← h]; exact bytes22_any a0 a2 a3 l0 c0 l2 c2 l3 c3 w
  clear h
  go_enter Try.func7, Try.ntmps7
  go_wp2_with (go_at_call 22; refine (HB.out _).mono ?_; rintro e w' ⟨rfl, rfl⟩)
  go_ret
  exact ⟨rfl, Below.refl _ _⟩

set_option maxRecDepth 100000 in
set_option maxHeartbeats 1000000 in
theorem queueOut_len (h : bytesB l0 l2 l3 = true) (h2 : 65536 < l0 ∨ 65536 < l2 ∨ 65536 < l3 ∨ 1048576 < 4 * l0 + 8 * l2 + 4 * l3 ∨ l2 ≠ l3) :
    Calls Try.prog 7 #[.slice a0 l0 c0, .slice a2 l2 c2, .slice a3 l3 c3] w fun e w' => e = .returned (.bool true) ∧ Below w.heap.size w w' := by
  have HB : Hid (∀ w, Calls Try.prog 22 #[.slice a0 l0 c0, .slice a2 l2 c2, .slice a3 l3 c3] w fun e w' => e = .returned (.bool true) ∧ w' = w) := by
    intro w; rw [← h]; exact bytes22_any a0 a2 a3 l0 c0 l2 c2 l3 c3 w
  have hb : l0 + l2 + l3 ≤ 1048576 := by simpa [bytesB] using h
  clear h
  by_cases g0 : 65536 < l0
  · clear h2
    go_enter Try.func7, Try.ntmps7
    go_wp2_with (go_at_call 22; refine (HB.out _).mono ?_; rintro e w' ⟨rfl, rfl⟩)
    go_ret
    exact ⟨rfl, Below.refl _ _⟩
  · by_cases g1 : 65536 < l2
    · clear h2
      go_enter Try.func7, Try.ntmps7
      go_wp2_with (go_at_call 22; refine (HB.out _).mono ?_; rintro e w' ⟨rfl, rfl⟩)
      go_ret
      exact ⟨rfl, Below.refl _ _⟩
    · by_cases g2 : 65536 < l3
      · clear h2
        go_enter Try.func7, Try.ntmps7
        go_wp2_with (go_at_call 22; refine (HB.out _).mono ?_; rintro e w' ⟨rfl, rfl⟩)
        go_ret
        exact ⟨rfl, Below.refl _ _⟩
      · by_cases g3 : 1048576 < 4 * l0 + 8 * l2 + 4 * l3
        · exact absurd g3 (by omega)
        · have g4 : ((l2 : Int) == (l3 : Int)) = false := by simp; omega
          clear h2
          go_enter Try.func7, Try.ntmps7
          go_wp2_with (go_at_call 22; refine (HB.out _).mono ?_; rintro e w' ⟨rfl, rfl⟩)
          go_ret
          exact ⟨rfl, Below.refl _ _⟩

set_option maxRecDepth 100000 in
set_option maxHeartbeats 1000000 in
theorem queueOut_in (h : bytesB l0 l2 l2 = true) (g0 : l0 ≤ 65536) (g1 : l2 ≤ 65536) (g2 : 4 * l0 + 8 * l2 + 4 * l2 ≤ 1048576)
    (h0 : Rd .u32 w a0 l0 zs) (hz : ∀ j, j < l0 → 0 ≤ zs.getD j 0 ∧ zs.getD j 0 < 4294967296) (hin : inB zs l2 = false) :
    Calls Try.prog 7 #[.slice a0 l0 c0, .slice a2 l2 c2, .slice a3 l2 c3] w fun e w' => e = .returned (.bool true) ∧ Below w.heap.size w w' := by
  have HB : Hid (∀ w, Calls Try.prog 22 #[.slice a0 l0 c0, .slice a2 l2 c2, .slice a3 l2 c3] w fun e w' => e = .returned (.bool true) ∧ w' = w) := by
    intro w; rw [← h]; exact bytes22_any a0 a2 a3 l0 c0 l2 c2 l2 c3 w
  have HI : Hid (Calls Try.prog 10 #[.slice a0 l0 c0, .int .i64 l2] w fun e w' => e = .returned (.bool false) ∧ w' = w) := by
    show Calls _ _ _ _ _; rw [← hin]; exact inRange_any a0 l0 c0 l2 zs w h0 (by omega) (by omega) hz
  clear h h0 hz hin
  go_enter Try.func7, Try.ntmps7
  go_wp2_with (first | (go_at_call 22; refine (HB.out _).mono ?_; rintro e w' ⟨rfl, rfl⟩) | (go_at_call 10; refine HI.out.mono ?_; rintro e w' ⟨rfl, rfl⟩))
  go_ret
  exact ⟨rfl, Below.refl _ _⟩
end Outqueue

section OutPop2
variable (a0 a2 a3 : Option Addr) (l0 c0 l2 c2 l3 c3 : Nat) (zs S N : List Int) (w : World)
set_option maxRecDepth 100000 in
set_option maxHeartbeats 1000000 in
theorem popOut_empty (h : bytesB 0 l2 l2 = true) (g1 : l2 ≤ 65536) (g2 : 4 * 0 + 8 * l2 + 4 * l2 ≤ 1048576) :
    Calls Try.prog 6 #[.slice a0 0 c0, .slice a2 l2 c2, .slice a3 l2 c3] w fun e w' => e = .returned (.bool true) ∧ Below w.heap.size w w' := by
  have HB : Hid (∀ w, Calls Try.prog 19 #[.slice a0 0 c0, .slice a2 l2 c2, .slice a3 l2 c3] w fun e w' => e = .returned (.bool true) ∧ w' = w) := by
    intro w; rw [← h]; exact bytes19_any a0 a2 a3 0 c0 l2 c2 l2 c3 w
  clear h
  go_enter Try.func6, Try.ntmps6
  go_wp2_with (go_at_call 19; refine (HB.out _).mono ?_; rintro e w' ⟨rfl, rfl⟩)
  go_ret
  exact ⟨rfl, Below.refl _ _⟩

set_option maxRecDepth 100000 in
set_option maxHeartbeats 1000000 in
theorem popOut_heap (h : bytesB l0 l2 l2 = true) (g0 : l0 ≤ 65536) (g1 : l2 ≤ 65536) (g2 : 4 * l0 + 8 * l2 + 4 * l2 ≤ 1048576) (nz : ((l0 : Int) == 0) = false)
    (h0 : Rd .u32 w a0 l0 zs) (h2 : Rd .i64 w a2 l2 S) (h3 : Rd .i32 w a3 l2 N) (hz : ∀ j, j < l0 → 0 ≤ zs.getD j 0 ∧ zs.getD j 0 < (l2 : Int)) (hin : inB zs l2 = true) (hh : heapB (lat S N) zs l0 = false) :
    Calls Try.prog 6 #[.slice a0 l0 c0, .slice a2 l2 c2, .slice a3 l2 c3] w fun e w' => e = .returned (.bool true) ∧ Below w.heap.size w w' := by
  have HB : Hid (∀ w, Calls Try.prog 19 #[.slice a0 l0 c0, .slice a2 l2 c2, .slice a3 l2 c3] w fun e w' => e = .returned (.bool true) ∧ w' = w) := by
    intro w; rw [← h]; exact bytes19_any a0 a2 a3 l0 c0 l2 c2 l2 c3 w
  have HI : Hid (Calls Try.prog 10 #[.slice a0 l0 c0, .int .i64 l2] w fun e w' => e = .returned (.bool true) ∧ w' = w) := by
    show Calls _ _ _ _ _; rw [← hin]; exact inRange_any a0 l0 c0 l2 zs w h0 (by omega) (by omega) (fun j hj => ⟨(hz j hj).1, by have := (hz j hj).2; omega⟩)
  have HH : Hid (Calls Try.prog 11 #[.slice a0 l0 c0, .slice a2 l2 c2, .slice a3 l2 c3] w fun e w' => e = .returned (.bool false) ∧ Below w.heap.size w w') := by
    show Calls _ _ _ _ _; rw [← hh]; exact isHeap_any a0 a2 a3 l0 c0 l2 c2 c3 zs S N w h0 h2 h3 (by omega) (by omega) hz
  clear h h0 h2 h3 hz hin hh
  go_enter Try.func6, Try.ntmps6
  go_wp2_with (first | (go_at_call 19; refine (HB.out _).mono ?_; rintro e w' ⟨rfl, rfl⟩) | (go_at_call 10; refine HI.out.mono ?_; rintro e w' ⟨rfl, rfl⟩) | (go_at_call 11; refine HH.out.mono ?_; rintro e w1 ⟨rfl, hb⟩))
  go_ret
  exact ⟨rfl, hb⟩
end OutPop2
end Go.Proofs.Qxb6001001a
