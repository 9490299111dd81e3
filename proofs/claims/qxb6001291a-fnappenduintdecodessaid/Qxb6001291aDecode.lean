/-
  decodeSigned (18), decodeUnsigned (22): they read back the bytes of an integer.
-/
import Derived.Test.Qxb6001291aIntWalk
import Derived.Laws.BitsAllLaws
namespace Go.Proofs.Qxb6001291a
open Go.RowKit
set_option linter.unusedVariables false

theorem and128 (c : Int) (h0 : 0 ≤ c) (h1 : c < 256) : bits .and .u8 c 128 = c / 128 * 128 := by
  rw [u8_and c 128 h0 h1 (by decide) (by decide)]
  have e : ((128 : Int).toNat : Nat) = 2 ^ 7 := by decide
  rw [e, nat_bit]
  omega

theorem or8s (x b : Int) (h0 : -9223372036854775808 ≤ x * 256) (h1 : x * 256 ≤ 9223372036854775807) (h2 : 0 ≤ b) (h3 : b < 256) : bits .or .i64 (x * 256) b = x * 256 + b := by
  obtain ⟨X, hX⟩ : ∃ X : Nat, (X : Int) = (x * 256) % 18446744073709551616 := ⟨((x * 256) % 18446744073709551616).toNat, by omega⟩
  obtain ⟨y, rfl⟩ := Int.eq_ofNat_of_zero_le h2
  have hXl : X < 18446744073709551616 := by omega
  have e1 : BitVec.ofInt IntKind.i64.bits (x * 256) = BitVec.ofNat IntKind.i64.bits X := by
    apply BitVec.eq_of_toNat_eq
    rw [BitVec.toNat_ofInt, BitVec.toNat_ofNat]
    show (x * 256 % ((2 ^ 64 : Nat) : Int)).toNat = X % 2 ^ 64
    have e64 : ((2 ^ 64 : Nat) : Int) = 18446744073709551616 := by decide
    rw [e64, ← hX]
    omega
  have hy : y < 256 := by omega
  have m1 : X % 2 ^ IntKind.i64.bits = X := Nat.mod_eq_of_lt (by show X < 2 ^ 64; omega)
  have m2 : y % 2 ^ IntKind.i64.bits = y := Nat.mod_eq_of_lt (by show y < 2 ^ 64; omega)
  simp only [bits, e1, BitVec.ofInt_natCast, BitVec.toNat_or, BitVec.toNat_ofNat, m1, m2]
  rw [nat_join 8 X y (by omega) (by omega), IntKind.wrap_i64]
  omega

theorem or8u (x b : Int) (h0 : 0 ≤ x) (h1 : x * 256 < 18446744073709551616) (h2 : 0 ≤ b) (h3 : b < 256) : bits .or .u64 (x * 256) b = x * 256 + b := by
  rw [u64_or (x * 256) b (by omega) h1 h2 (by omega), nat_join 8 _ _ (by omega) (by omega)]
  omega

theorem div_bounds {v P lo hi : Int} (hP : 1 ≤ P) (h1 : lo ≤ v) (h2 : v ≤ hi) (h3 : lo ≤ 0) (h4 : 0 ≤ hi) : lo ≤ v / P ∧ v / P ≤ hi := by
  rcases Int.lt_or_le v 0 with h | h
  · constructor
    · refine Int.le_trans h1 ((Int.le_ediv_iff_mul_le (by omega)).2 ?_)
      have := Int.mul_le_mul_of_nonpos_left (Int.le_of_lt h) hP
      omega
    · have := Int.ediv_neg_of_neg_of_pos h (show 0 < P by omega)
      omega
  · exact ⟨Int.le_trans h3 (Int.ediv_nonneg h (by omega)), Int.le_trans (Int.ediv_le_self P h) h2⟩

theorem pow_one (j : Nat) : (1 : Int) ≤ 2 ^ j := pow_pos8 j

/-- One step of the reader, and that nothing overflows. -/
theorem acc_step {v lo hi : Int} (s k : Nat) (hk : k < s) (h1 : lo ≤ v) (h2 : v ≤ hi) (h3 : lo ≤ 0) (h4 : 0 ≤ hi) :
    (be s v).getD k 0 = v / 2 ^ (8 * (s - (k + 1))) % 256 ∧ v / 2 ^ (8 * (s - k)) = v / 2 ^ (8 * (s - (k + 1))) / 256 ∧ lo ≤ v / 2 ^ (8 * (s - (k + 1))) ∧ v / 2 ^ (8 * (s - (k + 1))) ≤ hi := by
  refine ⟨?_, ?_, div_bounds (pow_one _) h1 h2 h3 h4⟩
  · rw [be_getD s v k hk, show s - 1 - k = s - (k + 1) by omega]
  · rw [show s - k = (s - (k + 1)) + 1 by omega, pow_succ8, ← Int.ediv_ediv_of_nonneg (Int.le_of_lt (pow_pos8 _))]

set_option maxRecDepth 100000 in
set_option maxHeartbeats 800000 in
theorem dsig_any (a : Option Addr) (s cc : Nat) (v : Int) (w : World) (h : Rd .u8 w a s (be s v)) (hF : Fit v s) (hs : s ≤ 8) (hv1 : -9223372036854775808 ≤ v) (hv2 : v ≤ 9223372036854775807) :
    Calls Try.prog 18 #[.slice a s cc] w fun e w' => e = .returned (.int .i64 v) ∧ w' = w := by
  have hs1 := hF.1
  obtain ⟨b, off, rfl, hc⟩ := h.at 0 hs1
  have c0 := hc 0 hs1
  rw [Nat.add_zero] at c0
  have hf := fit_first hF
  have htop := fit_top hF
  have hr := be_range s v _ (getD_mem (be s v) 0 (by rw [be_length]; exact hs1))
  have hrng := be_range s v
  have ha := and128 _ hr.1 hr.2
  have HR : Hid (∀ k, k < s → w.cell? ⟨b, off + k, none⟩ = some (.int .u8 ((be s v).getD k 0))) := by
    intro k hk
    exact hc k hk
  have hsp : (0 : Int) < (s : Int) := by omega
  have hsn : 0 < s := hs1
  have HV : Hid (-9223372036854775808 ≤ v ∧ v ≤ 9223372036854775807) := ⟨hv1, hv2⟩
  have HT : Hid (v / 2 ^ (8 * s) = if v < 0 then -1 else 0) := htop
  generalize (be s v).getD 0 0 = z at c0 hf ha hr
  by_cases hneg : v < 0
  · have hz : (bits .and .u8 z 128 != 0) = true := by
      rw [ha]; rw [if_pos hneg] at hf; rw [hf]; decide
    have HT2 : Hid (v / 2 ^ (8 * s) = -1) := by have := HT.out; rw [if_pos hneg] at this; exact this
    clear hf ha htop hr hc h hneg hv1 hv2 HT hrng hF
    go_enter Try.func18, Try.ntmps18
    go_wp2_with fail
    go_loop [3, 4] (fun acc i => ∃ k : Nat, k ≤ s ∧ acc = .int .i64 (v / 2 ^ (8 * (s - k))) ∧ i = .int .i64 k) (fun _ i => s - (intOf i).toNat)
    case atStart => exact ⟨0, Nat.zero_le _, by rw [Nat.sub_zero, HT2.out], rfl⟩
    case round =>
      obtain ⟨k, hk, rfl, rfl⟩ := hrel
      by_cases hlt : k < s
      · have ck := HR.out k hlt
        obtain ⟨q1, q2, q3, q4⟩ := acc_step s k hlt HV.out.1 HV.out.2 (by decide) (by decide)
        rw [q1] at ck
        rw [q2]
        clear q1 q2
        generalize hy : v / 2 ^ (8 * (s - (k + 1))) = y at *
        have HY : Hid (v / 2 ^ (8 * (s - (k + 1))) = y) := hy
        clear hy
        have o1 := or8s (y / 256) (y % 256) (by omega) (by omega) (by omega) (by omega)
        have o2 : y / 256 * 256 + y % 256 = y := by omega
        rw [o2] at o1
        have b1 : -9223372036854775808 ≤ y / 256 * 256 := by omega
        have b2 : y / 256 * 256 ≤ 9223372036854775807 := by omega
        clear o2 c0
        go_wp2_with fail
        go_round
        case rel => exact ⟨k + 1, by omega, (by rw [HY.out]), by go_num⟩
        case measure => simp [intOf]; omega
      · obtain rfl : s = k := by omega
        go_wp2_with fail
        go_ret
        exact ⟨rfl, rfl⟩
  · have hz : (bits .and .u8 z 128 != 0) = false := by
      rw [ha]; rw [if_neg hneg] at hf; rw [hf]; decide
    have HT2 : Hid (v / 2 ^ (8 * s) = 0) := by have := HT.out; rw [if_neg hneg] at this; exact this
    clear hf ha htop hr hc h hneg hv1 hv2 HT hrng hF
    go_enter Try.func18, Try.ntmps18
    go_wp2_with fail
    go_loop [3, 4] (fun acc i => ∃ k : Nat, k ≤ s ∧ acc = .int .i64 (v / 2 ^ (8 * (s - k))) ∧ i = .int .i64 k) (fun _ i => s - (intOf i).toNat)
    case atStart => exact ⟨0, Nat.zero_le _, by rw [Nat.sub_zero, HT2.out], rfl⟩
    case round =>
      obtain ⟨k, hk, rfl, rfl⟩ := hrel
      by_cases hlt : k < s
      · have ck := HR.out k hlt
        obtain ⟨q1, q2, q3, q4⟩ := acc_step s k hlt HV.out.1 HV.out.2 (by decide) (by decide)
        rw [q1] at ck
        rw [q2]
        clear q1 q2
        generalize hy : v / 2 ^ (8 * (s - (k + 1))) = y at *
        have HY : Hid (v / 2 ^ (8 * (s - (k + 1))) = y) := hy
        clear hy
        have o1 := or8s (y / 256) (y % 256) (by omega) (by omega) (by omega) (by omega)
        have o2 : y / 256 * 256 + y % 256 = y := by omega
        rw [o2] at o1
        have b1 : -9223372036854775808 ≤ y / 256 * 256 := by omega
        have b2 : y / 256 * 256 ≤ 9223372036854775807 := by omega
        clear o2 c0
        go_wp2_with fail
        go_round
        case rel => exact ⟨k + 1, by omega, (by rw [HY.out]), by go_num⟩
        case measure => simp [intOf]; omega
      · obtain rfl : s = k := by omega
        go_wp2_with fail
        go_ret
        exact ⟨rfl, rfl⟩
end Go.Proofs.Qxb6001291a
