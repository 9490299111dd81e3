/-
  cloneBytes (11), sameBytes (13), zzBytes_.. (10, 16, 19, 21): what each computes.
-/
import Derived.Test.Qxb6001291aBase
import Derived.Deep.QuietTactic
import Derived.BigQuiet
import Derived.Lib.SliceRun
namespace Go.Proofs.Qxb6001291a
open Go.RowKit
set_option linter.unusedVariables false

def bytes2B (a b : Nat) : Bool := decide (a + b ≤ 1048576)

set_option maxHeartbeats 400000 in
theorem bytes10_any (a0 a2 : Option Addr) (l0 c0 l2 c2 : Nat) (t : Int) (w : World) :
    Calls Try.prog 10 #[.slice a0 l0 c0, .int .u8 t, .slice a2 l2 c2] w fun e w' => e = .returned (.bool (bytes2B l0 l2)) ∧ w' = w := by
  by_cases h0 : l0 ≤ 1048576
  · by_cases h1 : l2 ≤ 1048576
    · by_cases h2 : l0 + l2 ≤ 1048576
      · have HS : Hid (bytes2B l0 l2 = true) := decide_eq_true h2
        go_enter Try.func10, Try.ntmps10
        go_wp2
        go_ret
        exact ⟨by rw [HS.out]; rfl, rfl⟩
      · have HS : Hid (bytes2B l0 l2 = false) := decide_eq_false h2
        go_enter Try.func10, Try.ntmps10
        go_wp2
        go_ret
        exact ⟨by rw [HS.out]; rfl, rfl⟩
    · have HS : Hid (bytes2B l0 l2 = false) := decide_eq_false (by omega)
      go_enter Try.func10, Try.ntmps10
      go_wp2
      go_ret
      exact ⟨by rw [HS.out]; rfl, rfl⟩
  · have HS : Hid (bytes2B l0 l2 = false) := decide_eq_false (by omega)
    go_enter Try.func10, Try.ntmps10
    go_wp2
    go_ret
    exact ⟨by rw [HS.out]; rfl, rfl⟩

def bytes1B (a : Nat) : Bool := decide (a ≤ 1048576)

set_option maxHeartbeats 400000 in
theorem bytes16_any (a0 : Option Addr) (l0 c0 : Nat) (t v : Int) (w : World) :
    Calls Try.prog 16 #[.slice a0 l0 c0, .int .u8 t, .int .i64 v] w fun e w' => e = .returned (.bool (bytes1B l0)) ∧ w' = w := by
  by_cases h0 : l0 ≤ 1048576
  · have HS : Hid (bytes1B l0 = true) := decide_eq_true h0
    go_enter Try.func16, Try.ntmps16
    go_wp2
    go_ret
    exact ⟨by rw [HS.out]; rfl, rfl⟩
  · have HS : Hid (bytes1B l0 = false) := decide_eq_false h0
    go_enter Try.func16, Try.ntmps16
    go_wp2
    go_ret
    exact ⟨by rw [HS.out]; rfl, rfl⟩

set_option maxHeartbeats 400000 in
theorem bytes19_any (a0 : Option Addr) (l0 c0 : Nat) (t v : Int) (w : World) :
    Calls Try.prog 19 #[.slice a0 l0 c0, .int .u8 t, .int .i64 v] w fun e w' => e = .returned (.bool (bytes1B l0)) ∧ w' = w := by
  by_cases h0 : l0 ≤ 1048576
  · have HS : Hid (bytes1B l0 = true) := decide_eq_true h0
    go_enter Try.func19, Try.ntmps19
    go_wp2
    go_ret
    exact ⟨by rw [HS.out]; rfl, rfl⟩
  · have HS : Hid (bytes1B l0 = false) := decide_eq_false h0
    go_enter Try.func19, Try.ntmps19
    go_wp2
    go_ret
    exact ⟨by rw [HS.out]; rfl, rfl⟩

set_option maxHeartbeats 400000 in
theorem bytes21_any (a0 : Option Addr) (l0 c0 : Nat) (t v : Int) (w : World) :
    Calls Try.prog 21 #[.slice a0 l0 c0, .int .u8 t, .int .u64 v] w fun e w' => e = .returned (.bool (bytes1B l0)) ∧ w' = w := by
  by_cases h0 : l0 ≤ 1048576
  · have HS : Hid (bytes1B l0 = true) := decide_eq_true h0
    go_enter Try.func21, Try.ntmps21
    go_wp2
    go_ret
    exact ⟨by rw [HS.out]; rfl, rfl⟩
  · have HS : Hid (bytes1B l0 = false) := decide_eq_false h0
    go_enter Try.func21, Try.ntmps21
    go_wp2
    go_ret
    exact ⟨by rw [HS.out]; rfl, rfl⟩

set_option maxHeartbeats 400000 in
theorem clone_nil (cap : Nat) (w : World) :
    Calls Try.prog 11 #[.slice none 0 cap] w fun e w' => e = .returned (.slice none 0 0) ∧ w' = w := by
  have hq := fun w => Lib.run_eql_slice_nil (P := Try.prog) w 22 5 none 0 cap 0 0 Try.underlying22
  simp only [Option.isNone_none] at hq
  go_enter Try.func11, Try.ntmps11
  go_wp2
  go_ret
  exact ⟨rfl, rfl⟩

set_option maxHeartbeats 400000 in
theorem clone_some (x : Addr) (n cap : Nat) (zs : List Int) (w : World) (h : Rd .u8 w (some x) n zs) (hn : n ≤ 1048576) :
    Calls Try.prog 11 #[.slice (some x) n cap] w fun e w' => e = .returned (.slice (some ⟨w.heap.size, 0, none⟩) n n) ∧
      w'.ownsRow w.heap.size 5 1 (.slice (some ⟨w.heap.size, 0, none⟩) n n) n (zs.map (Value.int .u8)) ∧ Below w.heap.size w w' := by
  have hq := fun w => Lib.run_eql_slice_nil (P := Try.prog) w 22 5 (some x) n cap 0 0 Try.underlying22
  simp only [Option.isNone_some] at hq
  obtain ⟨i0, hi, hz0, hz1, hz2⟩ := info_parts Try.info5
  go_enter Try.func11, Try.ntmps11
  go_wp2_with (at_make; refine wpList_make_full _ rfl _ _ 22 rfl w.heap.size 5 i0 (.int .u8 0) 1 Try.underlying22 hi hz0 hz1 _ _ _ _ n rfl rfl rfl rfl (by rw [hz2]; omega) (by unfold maxLen; omega) (Nat.le_refl _) ?_; intro w1 hown hgrow)
  have HO : Hid (∃ ys : List Int, ys.length = n ∧ w1.ownsRow w.heap.size 5 1 (.slice (some ⟨w.heap.size, 0, none⟩) n n) n (ys.map (Value.int .u8))) :=
    ⟨List.replicate n 0, by simp, by
      have e : (madeCells (Value.int .u8 0).cells (n * 1)).toList = (List.replicate n (0 : Int)).map (Value.int .u8) := by
        rw [show (Value.int .u8 0).cells = #[Value.int .u8 0] from rfl, toList_madeCells_one]; simp
      rw [e] at hown
      exact hown⟩
  have HB : Hid (Below w.heap.size w w1) := (Below.refl _ _).grown hgrow (Nat.le_refl _) (by simp)
  clear hown hgrow hi hz0 hz1 hz2 hq
  go_wp2
  go_loopw [4] (fun i wr => ∃ k : Nat, k ≤ n ∧ i = .int .i64 k ∧ Hid (Below w.heap.size w wr) ∧ Hid (∃ ys : List Int, ys.length = n ∧ (∀ j, j < k → ys.getD j 0 = zs.getD j 0) ∧ wr.ownsRow w.heap.size 5 1 (.slice (some ⟨w.heap.size, 0, none⟩) n n) n (ys.map (Value.int .u8)))) (fun i _ => n - (intOf i).toNat)
  case atStart =>
    obtain ⟨ys, h1, h2⟩ := HO
    exact ⟨0, Nat.zero_le _, rfl, HB, ys, h1, fun j hj => by omega, h2⟩
  case round =>
    obtain ⟨k, hk, rfl, HBr, HOr⟩ := hrel
    clear HO HB
    by_cases hlt : k < n
    · have h' := h.below HBr.out
      obtain ⟨b, off, hx, hc⟩ := h'.at k hlt
      simp only [Option.some.injEq] at hx
      subst hx
      have c1 := hc k hlt
      obtain ⟨ys, y1, y2, y3⟩ := HOr
      have c2 : wr.cell? ⟨w.heap.size, k, none⟩ = some (.int .u8 (ys.getD k 0)) := by
        rw [y3.cellAt k (by omega)]; simp [List.getD, show k < ys.length by omega]
      have f2 := y3.frozenAt k
      have HY : Hid (ys.length = n ∧ (∀ j, j < k → ys.getD j 0 = zs.getD j 0) ∧ wr.ownsRow w.heap.size 5 1 (.slice (some ⟨w.heap.size, 0, none⟩) n n) n (ys.map (Value.int .u8))) := ⟨y1, y2, y3⟩
      have HZ : Hid (∃ z, z = zs.getD k 0) := ⟨_, rfl⟩
      clear hc h' h y1 y2 y3
      generalize ys.getD k 0 = y at c2
      have hz : Hid (zs.getD k 0 = zs.getD k 0) := rfl
      generalize hzz : zs.getD k 0 = z at c1
      have HZ : Hid (zs.getD k 0 = z) := hzz
      clear hzz
      go_wp2
      go_roundw
      case rel =>
        obtain ⟨y1, y2, y3⟩ := HY
        refine ⟨k + 1, by omega, by go_num, Below.setCell HBr.out (Nat.le_refl _) _, ys.set k z, by simpa using y1, ?_, ?_⟩
        · intro j hj
          rw [getD_set]
          by_cases e : k = j
          · subst e; rw [if_pos ⟨rfl, by omega⟩]; exact HZ.out.symm
          · rw [if_neg (fun h => e h.1)]; exact y2 j (by omega)
        · have := (y3.stored k (Value.int .u8 z)).1
          rw [← List.map_set] at this
          exact this
      case measure => simp [intOf]; omega
    · have h1 := h.1
      clear h
      go_wp2
      go_ret
      refine ⟨rfl, ?_, HBr.out⟩
      obtain ⟨ys, y1, y2, y3⟩ := HOr
      have e : ys = zs := ext_getD y1 h1 (fun j hj => y2 j (by omega))
      rw [← e]; exact y3

/-- A copy: new memory that holds the same numbers; no spare room; nothing old has turned. -/
theorem clone_any (a : Option Addr) (n cap : Nat) (zs : List Int) (w : World) (h : Rd .u8 w a n zs) (hn : n ≤ 1048576) (ha : a = none → n = 0) :
    Calls Try.prog 11 #[.slice a n cap] w fun e w' => ∃ a', e = .returned (.slice a' n n) ∧ Rd .u8 w' a' n zs ∧ (a' = none → n = 0) ∧ Below w.heap.size w w' := by
  cases a with
  | none =>
    have h0 := ha rfl
    have hz : zs = [] := List.eq_nil_of_length_eq_zero (by rw [h.1, h0])
    subst hz; subst h0
    exact (clone_nil cap w).mono fun e w' ⟨he, hw⟩ => ⟨none, he, ⟨rfl, Or.inl rfl⟩, fun _ => rfl, by subst hw; exact Below.refl _ _⟩
  | some x => exact (clone_some x n cap zs w h hn).mono fun e w' ⟨he, ho, hb⟩ => ⟨_, he, rd_of_owns ho, fun e => (by cases e), hb⟩

set_option maxHeartbeats 400000 in
/-- Two rows that hold the same numbers. -/
theorem same_any (a b : Option Addr) (n ca cb : Nat) (xs : List Int) (w : World) (ha : Rd .u8 w a n xs) (hb : Rd .u8 w b n xs) (hn : n ≤ 2097152) :
    Calls Try.prog 13 #[.slice a n ca, .slice b n cb] w fun e w' => e = .returned (.bool true) ∧ Below w.heap.size w w' := by
  go_enter Try.func13, Try.ntmps13
  go_wp2
  go_loopw [5] (fun i wr => ∃ k : Nat, k ≤ n ∧ i = .int .i64 k ∧ Hid (Below w.heap.size w wr)) (fun i _ => n - (intOf i).toNat)
  case atStart => exact ⟨0, Nat.zero_le _, rfl, Below.refl _ _⟩
  case round =>
    obtain ⟨k, hk, rfl, HB⟩ := hrel
    have ha' := ha.below HB.out
    have hb' := hb.below HB.out
    clear ha hb
    by_cases hlt : k < n
    · obtain ⟨b1, o1, rfl, hc1⟩ := ha'.at k hlt
      obtain ⟨b2, o2, rfl, hc2⟩ := hb'.at k hlt
      have c1 := hc1 k hlt
      have c2 := hc2 k hlt
      generalize xs.getD k 0 = x at *
      clear hc1 hc2 ha' hb'
      have hk1 : (k : Int) < (n : Int) := by omega
      have hk0 : (0 : Int) ≤ (k : Int) := by omega
      go_wp2
      go_quiet (fail)
      go_wp2
      go_roundw
      case rel => exact ⟨k + 1, by omega, by go_num, below_drewN HB.out _⟩
      case measure => simp [intOf]; omega
    · clear ha' hb'
      go_wp2
      go_ret
      exact ⟨rfl, HB.out⟩

end Go.Proofs.Qxb6001291a
