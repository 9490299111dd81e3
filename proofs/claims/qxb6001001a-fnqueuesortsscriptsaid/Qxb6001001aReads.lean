/-
  THE FUNCTIONS THAT ONLY READ: zzBytes_.. (9, 19, 22), zzInRange (10), zzAfter (20), instant.after (26), zzIsHeap (11), zzSameCounts (18): what each computes.
-/
import Derived.Test.Qxb6001001aBase
import Derived.Deep.QuietTactic
import Derived.BigQuiet
import Derived.RegionTactic
namespace Go.Proofs.Qxb6001001a
open Go.RowKit
set_option linter.unusedVariables false

def bytesB (a b c : Nat) : Bool := decide (a + b + c ≤ 1048576)

set_option maxHeartbeats 400000 in
theorem bytes9_any (a0 a2 a3 : Option Addr) (l0 c0 l2 c2 l3 c3 : Nat) (d : Int) (w : World) :
    Calls Try.prog 9 #[.slice a0 l0 c0, .int .u32 d, .slice a2 l2 c2, .slice a3 l3 c3] w fun e w' => e = .returned (.bool (bytesB l0 l2 l3)) ∧ w' = w := by
  by_cases h0 : l0 ≤ 1048576
  · by_cases h1 : l2 ≤ 1048576
    · by_cases h2 : l0 + l2 ≤ 1048576
      · by_cases h3 : l3 ≤ 1048576
        · by_cases h4 : l0 + l2 + l3 ≤ 1048576
          · have HS : Hid (bytesB l0 l2 l3 = true) := decide_eq_true h4
            go_enter Try.func9, Try.ntmps9
            go_wp2
            go_ret
            exact ⟨by rw [HS.out]; rfl, rfl⟩
          · have HS : Hid (bytesB l0 l2 l3 = false) := decide_eq_false h4
            go_enter Try.func9, Try.ntmps9
            go_wp2
            go_ret
            exact ⟨by rw [HS.out]; rfl, rfl⟩
        · have HS : Hid (bytesB l0 l2 l3 = false) := decide_eq_false (by omega)
          go_enter Try.func9, Try.ntmps9
          go_wp2
          go_ret
          exact ⟨by rw [HS.out]; rfl, rfl⟩
      · have HS : Hid (bytesB l0 l2 l3 = false) := decide_eq_false (by omega)
        go_enter Try.func9, Try.ntmps9
        go_wp2
        go_ret
        exact ⟨by rw [HS.out]; rfl, rfl⟩
    · have HS : Hid (bytesB l0 l2 l3 = false) := decide_eq_false (by omega)
      go_enter Try.func9, Try.ntmps9
      go_wp2
      go_ret
      exact ⟨by rw [HS.out]; rfl, rfl⟩
  · have HS : Hid (bytesB l0 l2 l3 = false) := decide_eq_false (by omega)
    go_enter Try.func9, Try.ntmps9
    go_wp2
    go_ret
    exact ⟨by rw [HS.out]; rfl, rfl⟩

set_option maxHeartbeats 400000 in
theorem inRange_any (a : Option Addr) (len cap n : Nat) (zs : List Int) (w : World) (h : Rd .u32 w a len zs) (hl : len ≤ 1048576) (hn : n ≤ 1048576) (hz : ∀ j, j < len → 0 ≤ zs.getD j 0 ∧ zs.getD j 0 < 4294967296) :
    Calls Try.prog 10 #[.slice a len cap, .int .i64 n] w fun e w' => e = .returned (.bool (inB zs n)) ∧ w' = w := by
  go_enter Try.func10, Try.ntmps10
  go_wp2
  go_loop [5] (fun i => ∃ k : Nat, k ≤ len ∧ i = .int .i64 k ∧ inB (zs.take k) n = true) (fun i => len - (intOf i).toNat)
  case atStart => exact ⟨0, Nat.zero_le _, rfl, rfl⟩
  case round =>
    obtain ⟨k, hk, rfl, hin⟩ := hrel
    by_cases hlt : k < len
    · obtain ⟨b, off, rfl, hc⟩ := h.at k hlt
      have hck := hc k hlt
      have hzk := hz k hlt
      clear hc hz
      by_cases ht : zs.getD k 0 < (n : Int)
      · have HS : Hid (inB (zs.take (k + 1)) n = true) := by show _ = _; rw [inB_take zs n k (by rw [h.1]; exact hlt), hin]; simpa using ht
        generalize zs.getD k 0 = z at hck hzk ht
        clear hin h
        go_wp2
        go_round
        case rel => exact ⟨k + 1, by omega, by go_num, HS.out⟩
        case measure => simp [intOf]; omega
      · have HS : Hid (inB zs n = false) := by show _ = _; apply inB_take_false zs n (k + 1); rw [inB_take zs n k (by rw [h.1]; exact hlt)]; simp; intro _; simpa using ht
        generalize zs.getD k 0 = z at hck hzk ht
        clear hin h
        go_wp2
        go_ret
        exact ⟨by rw [HS.out]; rfl, rfl⟩
    · have HS : Hid (inB zs n = true) := by show _ = _; rw [List.take_of_length_le (by rw [h.1]; omega)] at hin; exact hin
      clear hin h hz
      go_wp2
      go_ret
      exact ⟨by rw [HS.out]; rfl, rfl⟩

set_option maxHeartbeats 400000 in
theorem zzAfter_any (s1 n1 s2 n2 : Int) (w : World) :
    Calls Try.prog 20 #[.int .i64 s1, .int .i32 n1, .int .i64 s2, .int .i32 n2] w fun e w' => e = .returned (.bool (aftB s1 n1 s2 n2)) ∧ w' = w := by
  by_cases h : s1 = s2
  · subst h
    have HS : Hid (aftB s1 n1 s1 n2 = decide (n2 < n1)) := by show _ = _; simp [aftB]
    go_enter Try.func20, Try.ntmps20
    go_wp2
    go_ret
    exact ⟨by rw [HS.out]; rfl, rfl⟩
  · have HS : Hid (aftB s1 n1 s2 n2 = decide (s2 < s1)) := by show _ = _; simp [aftB, h]
    have hb : (s1 == s2) = false := by simpa using h
    clear h
    go_enter Try.func20, Try.ntmps20
    go_wp2
    go_ret
    exact ⟨by rw [HS.out]; rfl, rfl⟩

set_option maxHeartbeats 400000 in
theorem after_any (s1 n1 s2 n2 : Int) (w : World) :
    Calls Try.prog 26 #[.agg #[.int .i64 s1, .int .i32 n1], .agg #[.int .i64 s2, .int .i32 n2]] w fun e w' => e = .returned (.bool (aftB s1 n1 s2 n2)) ∧ w' = (w.alloc (.cells #[.int .i64 s1, .int .i32 n1] 52)).alloc (.cells #[.int .i64 s2, .int .i32 n2] 52) := by
  by_cases h : s2 < s1
  · have HS : Hid (aftB s1 n1 s2 n2 = true) := by show _ = _; simp [aftB, h]; omega
    go_enter Try.func26, Try.ntmps26
    go_wp2
    go_ret
    exact ⟨by rw [HS.out]; rfl, rfl⟩
  · by_cases h2 : s1 = s2
    · subst h2
      have HS : Hid (aftB s1 n1 s1 n2 = decide (n2 < n1)) := by show _ = _; simp [aftB]
      go_enter Try.func26, Try.ntmps26
      go_wp2
      go_ret
      exact ⟨by rw [HS.out]; rfl, rfl⟩
    · have HS : Hid (aftB s1 n1 s2 n2 = false) := by show _ = _; simp [aftB, h2]; omega
      have hb : (s1 == s2) = false := by simpa using h2
      clear h2
      go_enter Try.func26, Try.ntmps26
      go_wp2
      go_ret
      exact ⟨by rw [HS.out]; rfl, rfl⟩

set_option maxRecDepth 100000 in
set_option maxHeartbeats 800000 in
theorem isHeap_any (a aS aN : Option Addr) (len cap n capS capN : Nat) (zs S N : List Int) (w : World) (h : Rd .u32 w a len zs) (hS : Rd .i64 w aS n S) (hN : Rd .i32 w aN n N)
    (hl : len ≤ 1048576) (hn : n ≤ 1048576) (hz : ∀ j, j < len → 0 ≤ zs.getD j 0 ∧ zs.getD j 0 < (n : Int)) :
    Calls Try.prog 11 #[.slice a len cap, .slice aS n capS, .slice aN n capN] w fun e w' => e = .returned (.bool (heapB (lat S N) zs len)) ∧ Below w.heap.size w w' := by
  go_enter Try.func11, Try.ntmps11
  go_wp2
  go_loopw [7] (fun i wr => ∃ m : Nat, (m + 1 ≤ len ∨ m = 0) ∧ i = .int .i64 ((m : Int) + 1) ∧ heapB (lat S N) zs (m + 1) = true ∧ Hid (Below w.heap.size w wr)) (fun i _ => len - (intOf i).toNat)
  case atStart => exact ⟨0, Or.inr rfl, rfl, rfl, Below.refl _ _⟩
  case round =>
    obtain ⟨m, hk, rfl, hin, HB⟩ := hrel
    have h' := h.below HB.out
    have hS' := hS.below HB.out
    have hN' := hN.below HB.out
    clear h hS hN
    by_cases hlt : m + 1 < len
    · obtain ⟨b, off, rfl, hc⟩ := h'.at 0 (by omega)
      have hm1 : (m : Int) + 1 < (len : Int) := by omega
      obtain ⟨hzp, hzp'⟩ := hz (m / 2) (by omega)
      obtain ⟨hzi, hzi'⟩ := hz (m + 1) (by omega)
      have cp := hc (m / 2) (by omega)
      have ci := hc (m + 1) (by omega)
      have HS1 := heapB_succ (lat S N) zs m
      rw [hin] at HS1
      unfold lat at HS1
      generalize zs.getD (m / 2) 0 = zp at *
      generalize zs.getD (m + 1) 0 = zi at *
      obtain ⟨bS, oS, rfl, hcS⟩ := hS'.at zp.toNat (by omega)
      obtain ⟨bN, oN, rfl, hcN⟩ := hN'.at zp.toNat (by omega)
      have cSp := hcS zp.toNat (by omega)
      have cSi := hcS zi.toNat (by omega)
      have cNp := hcN zp.toNat (by omega)
      have cNi := hcN zi.toNat (by omega)
      generalize S.getD zp.toNat 0 = sp at *
      generalize N.getD zp.toNat 0 = np at *
      generalize S.getD zi.toNat 0 = si at *
      generalize N.getD zi.toNat 0 = ni at *
      have HS2 : Hid (heapB (lat S N) zs (m + 2) = (true && !aftB sp np si ni)) := HS1
      clear HS1 hc hz h' hS' hN' hin hcS hcN
      have p0 : (0 : Int) ≤ (m : Int) / 2 := by omega
      have p1 : (m : Int) / 2 < (len : Int) := by omega
      have e1 : ((m : Int) / 2).toNat = m / 2 := by omega
      have e2 : ((m : Int) + 1).toNat = m + 1 := by omega
      have i0 : (0 : Int) ≤ (m : Int) + 1 := by omega
      by_cases hA : aftB sp np si ni = true
      · have hcall : ∀ w : World, Calls Try.prog 20 #[.int .i64 sp, .int .i32 np, .int .i64 si, .int .i32 ni] w fun e w' => e = .returned (.bool true) ∧ w' = w := by
          intro w; rw [← hA]; exact zzAfter_any sp np si ni w
        have HC : Hid (∀ w : World, Calls Try.prog 20 #[.int .i64 sp, .int .i32 np, .int .i64 si, .int .i32 ni] w fun e w' => e = .returned (.bool true) ∧ w' = w) := hcall
        clear hcall
        go_wp2
        go_quiet ((go_at_call 20; exact Calls.quiet_of_same (HC.out _)))
        go_wp2
        go_ret
        refine ⟨?_, ?_⟩
        · have := HS2.out
          rw [hA] at this
          rw [heapB_false _ _ (m + 2) len this (by omega)]; rfl
        · exact below_drewN HB.out _
      · have hA' : aftB sp np si ni = false := by simpa using hA
        have hcall : ∀ w : World, Calls Try.prog 20 #[.int .i64 sp, .int .i32 np, .int .i64 si, .int .i32 ni] w fun e w' => e = .returned (.bool false) ∧ w' = w := by
          intro w; rw [← hA']; exact zzAfter_any sp np si ni w
        have HC : Hid (∀ w : World, Calls Try.prog 20 #[.int .i64 sp, .int .i32 np, .int .i64 si, .int .i32 ni] w fun e w' => e = .returned (.bool false) ∧ w' = w) := hcall
        clear hcall hA
        go_wp2
        go_quiet ((go_at_call 20; exact Calls.quiet_of_same (HC.out _)))
        go_wp2
        go_roundw
        case rel => exact ⟨m + 1, Or.inl (by omega), by go_num, by rw [HS2.out, hA']; rfl, below_drewN HB.out _⟩
        case measure => simp [intOf]; omega
    · have HS2 : Hid (heapB (lat S N) zs len = true) := by
        show _ = _
        rcases hk with hk | hk
        · obtain rfl : m + 1 = len := by omega
          exact hin
        · subst hk
          cases len with
          | zero => rfl
          | succ len =>
            obtain rfl : len = 0 := by omega
            rfl
      clear hin h' hS' hN' hz
      have hm1 : ¬ (m : Int) + 1 < (len : Int) := by omega
      go_wp2
      go_ret
      exact ⟨by rw [HS2.out]; rfl, HB.out⟩

set_option maxHeartbeats 400000 in
/-- Two rows that hold the same numbers. -/
theorem same_any (a b : Option Addr) (n ca cb : Nat) (xs : List Int) (w : World) (ha : Rd .i64 w a n xs) (hb : Rd .i64 w b n xs) (hn : n ≤ 1048576) :
    Calls Try.prog 18 #[.slice a n ca, .slice b n cb] w fun e w' => e = .returned (.bool true) ∧ Below w.heap.size w w' := by
  go_enter Try.func18, Try.ntmps18
  go_wp2
  go_loopw [5] (fun i wr => ∃ k : Nat, k ≤ n ∧ i = .int .i64 k ∧ Hid (Below w.heap.size w wr)) (fun i _ => n - (intOf i).toNat)
  case atStart => exact ⟨0, Nat.zero_le _, rfl, Below.refl _ _⟩
  case round =>
    obtain ⟨k, hk, rfl, HB⟩ := hrel
    have ha' := ha.below HB.out
    have hb' := hb.below HB.out
    clear ha hb
    by_cases hlt : k < n
    · obtain ⟨b1, o1, rfl, hc1⟩ := ha'.at k hlt
      obtain ⟨b2, o2, rfl, hc2⟩ := hb'.at k hlt
      have c1 := hc1 k hlt
      have c2 := hc2 k hlt
      generalize xs.getD k 0 = x at *
      clear hc1 hc2 ha' hb'
      have hk1 : (k : Int) < (n : Int) := by omega
      have hk0 : (0 : Int) ≤ (k : Int) := by omega
      go_wp2
      go_quiet (fail)
      go_wp2
      go_roundw
      case rel => exact ⟨k + 1, by omega, by go_num, below_drewN HB.out _⟩
      case measure => simp [intOf]; omega
    · clear ha' hb'
      go_wp2
      go_ret
      exact ⟨rfl, HB.out⟩
end Go.Proofs.Qxb6001001a
