/-
  decodeUnsigned (22); FnAppendUintDecodes (8): the law, out of the contracts of its callees.
-/
import Derived.Test.Qxb6001291aParseAny
import Derived.Test.Qxb6001291aUintWalk
namespace Go.Proofs.Qxb6001291a
open Go.RowKit
set_option linter.unusedVariables false

set_option maxRecDepth 100000 in
set_option maxHeartbeats 800000 in
theorem duns_any (a : Option Addr) (s cc : Nat) (v : Int) (w : World) (h : Rd .u8 w a s (be s v)) (hs : s ≤ 9) (hv1 : 0 ≤ v) (hv2 : v < 18446744073709551616) (htop : v / 2 ^ (8 * s) = 0) :
    Calls Try.prog 22 #[.slice a s cc] w fun e w' => e = .returned (.int .u64 v) ∧ w' = w := by
  have HV : Hid (0 ≤ v ∧ v ≤ 18446744073709551615) := ⟨hv1, by omega⟩
  have HT : Hid (v / 2 ^ (8 * s) = 0) := htop
  have HR : Hid (Rd .u8 w a s (be s v)) := h
  clear hv1 hv2 htop h
  go_enter Try.func22, Try.ntmps22
  go_wp2_with fail
  go_loop [3, 4] (fun acc i => ∃ k : Nat, k ≤ s ∧ acc = .int .u64 (v / 2 ^ (8 * (s - k))) ∧ i = .int .i64 k) (fun _ i => s - (intOf i).toNat)
  case atStart => exact ⟨0, Nat.zero_le _, by rw [Nat.sub_zero, HT.out], rfl⟩
  case round =>
    obtain ⟨k, hk, rfl, rfl⟩ := hrel
    by_cases hlt : k < s
    · obtain ⟨b, off, rfl, hc⟩ := HR.out.at k hlt
      have ck := hc k hlt
      obtain ⟨q1, q2, q3, q4⟩ := acc_step s k hlt HV.out.1 HV.out.2 (by decide) (by decide)
      rw [q1] at ck
      rw [q2]
      clear q1 q2 hc
      generalize hy : v / 2 ^ (8 * (s - (k + 1))) = y at *
      have HY : Hid (v / 2 ^ (8 * (s - (k + 1))) = y) := hy
      clear hy
      have o1 := or8u (y / 256) (y % 256) (by omega) (by omega) (by omega) (by omega)
      have o2 : y / 256 * 256 + y % 256 = y := by omega
      rw [o2] at o1
      have b1 : 0 ≤ y / 256 * 256 := by omega
      have b2 : y / 256 * 256 < 18446744073709551616 := by omega
      have b3 : 0 ≤ y / 256 := by omega
      clear o2
      go_wp2_with fail
      go_round
      case rel => exact ⟨k + 1, by omega, (by rw [HY.out]), by go_num⟩
      case measure => simp [intOf]; omega
    · obtain rfl : s = k := by omega
      go_wp2_with fail
      go_ret
      exact ⟨rfl, rfl⟩

set_option maxHeartbeats 400000 in
theorem uintOut_bytes (a0 : Option Addr) (l0 c0 : Nat) (t v : Int) (w : World) (h : bytes1B l0 = false) :
    Calls Try.prog 8 #[.slice a0 l0 c0, .int .u8 t, .int .u64 v] w fun e w' => e = .returned (.bool true) ∧ Below w.heap.size w w' := by
  have HB : Hid (∀ w, Calls Try.prog 21 #[.slice a0 l0 c0, .int .u8 t, .int .u64 v] w fun e w' => e = .returned (.bool false) ∧ w' = w) := by
    intro w; rw [← h]; exact bytes21_any a0 l0 c0 t v w
  clear h
  go_enter Try.func8, Try.ntmps8
  go_wp2_with (go_at_call 21; refine (HB.out _).mono ?_; rintro e w' ⟨rfl, rfl⟩)
  go_ret
  exact ⟨rfl, Below.refl _ _⟩

theorem nine_zero {v : Int} (h0 : 0 ≤ v) (h1 : v < 18446744073709551616) : (be 9 v).getD 0 0 = 0 := by
  rw [be_getD 9 v 0 (by decide)]
  have e : (2 : Int) ^ (8 * (9 - 1 - 0)) = 18446744073709551616 := by decide
  rw [e]
  omega

set_option maxRecDepth 100000 in
set_option maxHeartbeats 4000000 in
theorem uint_main (a0 : Option Addr) (l0 c0 : Nat) (t v : Int) (zs : List Int) (w : World) (h : bytes1B l0 = true) (h0 : Rd .u8 w a0 l0 zs) (n0 : a0 = none → l0 = 0) (hv1 : 0 ≤ v) (hv2 : v < 18446744073709551616) :
    Calls Try.prog 8 #[.slice a0 l0 c0, .int .u8 t, .int .u64 v] w fun e w' => e = .returned (.bool true) ∧ Below w.heap.size w w' := by
  have HB : Hid (∀ w, Calls Try.prog 21 #[.slice a0 l0 c0, .int .u8 t, .int .u64 v] w fun e w' => e = .returned (.bool true) ∧ w' = w) := by
    intro w; rw [← h]; exact bytes21_any a0 l0 c0 t v w
  have hl0 : l0 ≤ 1048576 := by simpa [bytes1B] using h
  have H0 : Hid (Rd .u8 w a0 l0 zs ∧ (a0 = none → l0 = 0)) := ⟨h0, n0⟩
  have HV : Hid (0 ≤ v ∧ v < 18446744073709551616) := ⟨hv1, hv2⟩
  clear h h0 n0 hv1 hv2
  go_enter Try.func8, Try.ntmps8
  go_wp2_with (go_at_call 21; refine (HB.out _).mono ?_; rintro e w1 ⟨rfl, rfl⟩)
  clear HB
  refine (clone_any a0 l0 c0 zs w1 H0.out.1 hl0 H0.out.2).mono ?_
  rintro e w3 ⟨b, rfl, rb, nb, hb3⟩
  have R3 : Hid (Rd .u8 w3 b l0 zs ∧ (b = none → l0 = 0) ∧ Below w1.heap.size w1 w3) := ⟨rb, nb, hb3⟩
  clear rb nb hb3 H0
  go_wp2_with fail
  refine (zzuint_any b l0 zs t v w3 R3.out.1 R3.out.2.1 hl0 HV.out.1 HV.out.2).mono ?_
  rintro e w4 ⟨s, hF, hs9, g, cap, n, rfl, hA⟩
  have hz : zs.length = l0 := R3.out.1.1
  have hown := hA.1
  rw [List.append_assoc, List.append_assoc] at hown
  obtain ⟨hle, hhead⟩ := head_rd hown hz
  have hcap := (cap_of_owns hown).1
  have hcm := (cap_of_owns hown).2
  unfold maxLen at hcm
  have HA : Hid (AW w3 w4 (.slice (some ⟨g, 0, none⟩) n cap) n (zs ++ [t] ++ lenB s ++ be s v)) := hA
  have HS : Hid (Calls Try.prog 13 #[.slice (some ⟨g, 0, none⟩) l0 cap, .slice b l0 l0] w4 fun e w' => e = .returned (.bool true) ∧ Below w4.heap.size w4 w') :=
    same_any _ _ l0 cap l0 zs w4 hhead (R3.out.1.below hA.2) (by omega)
  have HR : Hid (Below w1.heap.size w1 w4) := R3.out.2.2.trans (hA.2.mono R3.out.2.2.size)
  have HL : Hid (zs.length = l0) := hz
  have HF : Hid (Fit v s) := hF
  have hs1 : 1 ≤ s := hF.1
  clear hown hhead hA hz R3 hF
  have q1 : (l0 : Int) ≤ (n : Int) := by omega
  have q2 : (l0 : Int) ≤ (cap : Int) := by omega
  go_wp2_with fail
  refine HS.out.mono ?_
  rintro e w5 ⟨rfl, hb5⟩
  have HB5 : Hid (Below w4.heap.size w4 w5) := hb5
  clear hb5 HS
  go_wp2_with fail
  refine (parse_any w3.heap.size g n cap l0 s zs (be s v) t w5 (owns_below HA.out.1 HB5.out) HL.out (be_length s v) hl0 (by omega)).mono ?_
  rintro e w6 ⟨ac, cc, rfl, r6, hb6⟩
  have B6 : Hid (Below w1.heap.size w1 w6) := (HR.out.trans (HB5.out.mono HR.out.size)).trans (hb6.mono (Nat.le_trans HR.out.size HB5.out.size))
  have HTOP : Hid (v / 2 ^ (8 * s) = 0) := by have := fit_top HF.out; rw [if_neg (by have := HV.out; omega)] at this; exact this
  obtain ⟨bb, off, rfl, hc⟩ := r6.at 0 hs1
  have HD : Hid (∀ w', w' = w6 → Calls Try.prog 22 #[.slice (some ⟨bb, off, none⟩) s cc] w' fun e w'' => e = .returned (.int .u64 v) ∧ w'' = w') := fun w' hw => by
    subst hw; exact duns_any _ s cc v _ r6 hs9 HV.out.1 HV.out.2 HTOP.out
  have C0 := hc 0 hs1
  rw [Nat.add_zero] at C0
  obtain ⟨x0, x1⟩ := be_range s v _ (getD_mem (be s v) 0 (by rw [be_length]; exact hs1))
  have ff := fit_first HF.out
  rw [if_neg (by have := HV.out; omega)] at ff
  have hb0 : bits .and .u8 ((be s v).getD 0 0) 128 = 0 := by rw [and128 _ x0 x1, ff]; rfl
  have HN : Hid (s = 9 → (be s v).getD 0 0 = 0) := fun e => by subst e; exact nine_zero HV.out.1 HV.out.2
  have HC1 : Hid (∀ hgt : 1 < s, w6.cell? ⟨bb, off + 1, none⟩ = some (.int .u8 ((be s v).getD 1 0)) ∧ (0 ≤ (be s v).getD 1 0 ∧ (be s v).getD 1 0 < 256) ∧ ¬ ((be s v).getD 0 0 = 0 ∧ (be s v).getD 1 0 / 128 = 0)) :=
    fun hgt => ⟨hc 1 hgt, be_range s v _ (getD_mem (be s v) 1 (by rw [be_length]; exact hgt)), (fit_least HF.out hgt).1⟩
  generalize (be s v).getD 0 0 = z0 at *
  clear hc r6 hb6 HA HB5 HR ff x0 x1
  have s1 : (1 : Int) ≤ (s : Int) := by omega
  have s2 : (0 : Int) < (s : Int) := by omega
  have s9 : (s : Int) ≤ 9 := by omega
  by_cases hgt : 1 < s
  · obtain ⟨C1, ⟨y0, y1⟩, hl⟩ := HC1.out hgt
    generalize (be s v).getD 1 0 = z1 at *
    have hgi : (1 : Int) < (s : Int) := by omega
    clear HC1
    by_cases hz : z0 = 0
    · have hb1 : bits .and .u8 z1 128 = 128 := by rw [and128 _ y0 y1]; omega
      subst hz
      clear hl HN hb0
      have hb0 : bits .and .u8 0 128 = 0 := by rw [and128 _ (by decide) (by decide)]; decide
      by_cases h9 : s = 9
      · subst h9
        go_wp2_with fail
        refine (HD.out _ rfl).mono ?_
        rintro e w7 ⟨rfl, rfl⟩
        go_wp2
        go_ret
        exact ⟨rfl, B6.out⟩
      · have e9 : ((s : Int) == 9) = false := by simp; omega
        go_wp2_with fail
        refine (HD.out _ rfl).mono ?_
        rintro e w7 ⟨rfl, rfl⟩
        go_wp2
        go_ret
        exact ⟨rfl, B6.out⟩
    · have e9 : ((s : Int) == 9) = false := by
        simp
        intro e
        exact hz (HN.out (by omega))
      have ez : (z0 == 0) = false := by simpa using hz
      clear hl HN hz
      go_wp2_with fail
      refine (HD.out _ rfl).mono ?_
      rintro e w7 ⟨rfl, rfl⟩
      go_wp2
      go_ret
      exact ⟨rfl, B6.out⟩
  · have hgi : ¬ (1 : Int) < (s : Int) := by omega
    have e9 : ((s : Int) == 9) = false := by simp; omega
    clear HN HC1
    go_wp2_with fail
    refine (HD.out _ rfl).mono ?_
    rintro e w7 ⟨rfl, rfl⟩
    go_wp2
    go_ret
    exact ⟨rfl, B6.out⟩
end Go.Proofs.Qxb6001291a
