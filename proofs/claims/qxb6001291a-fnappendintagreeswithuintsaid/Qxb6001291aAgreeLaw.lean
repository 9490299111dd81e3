/-
  FnAppendIntAgreesWithUint (6): the law, out of the contracts of its callees.
-/
import Derived.Test.Qxb6001291aUintWalk
namespace Go.Proofs.Qxb6001291a
open Go.RowKit
set_option linter.unusedVariables false

theorem fit_lt {v : Int} {s r : Nat} (hv : 0 ≤ v) (h : Fit v s) (h' : Fit v r) (hlt : s < r) : False := by
  obtain ⟨h1, h2, _⟩ := h
  obtain ⟨_, _, h3⟩ := h'
  have hn : 0 ≤ v / 2 ^ (8 * s - 1) := Int.ediv_nonneg hv (Int.le_of_lt (pow_pos8 _))
  have hz : v / 2 ^ (8 * s - 1) = 0 := by omega
  rcases h3 with h3 | h3
  · omega
  · refine h3.1 ?_
    rw [show 8 * (r - 1) - 1 = (8 * s - 1) + (8 * (r - 1 - s)) by omega, Int.pow_add, ← Int.ediv_ediv_of_nonneg (Int.le_of_lt (pow_pos8 _)), hz]
    exact Int.zero_ediv _

/-- No two sizes fit. -/
theorem fit_one {v : Int} {s r : Nat} (hv : 0 ≤ v) (h : Fit v s) (h' : Fit v r) : s = r := by
  rcases Nat.lt_trichotomy s r with h1 | h1 | h1
  · exact (fit_lt hv h h' h1).elim
  · exact h1
  · exact (fit_lt hv h' h h1).elim

set_option maxHeartbeats 400000 in
theorem agreeOut_bytes (a0 : Option Addr) (l0 c0 : Nat) (t v : Int) (w : World) (h : bytes1B l0 = false) :
    Calls Try.prog 6 #[.slice a0 l0 c0, .int .u8 t, .int .i64 v] w fun e w' => e = .returned (.bool true) ∧ Below w.heap.size w w' := by
  have HB : Hid (∀ w, Calls Try.prog 19 #[.slice a0 l0 c0, .int .u8 t, .int .i64 v] w fun e w' => e = .returned (.bool false) ∧ w' = w) := by
    intro w; rw [← h]; exact bytes19_any a0 l0 c0 t v w
  clear h
  go_enter Try.func6, Try.ntmps6
  go_wp2_with (go_at_call 19; refine (HB.out _).mono ?_; rintro e w' ⟨rfl, rfl⟩)
  go_ret
  exact ⟨rfl, Below.refl _ _⟩

set_option maxHeartbeats 400000 in
theorem agreeOut_neg (a0 : Option Addr) (l0 c0 : Nat) (t v : Int) (w : World) (h : bytes1B l0 = true) (hv : v < 0) :
    Calls Try.prog 6 #[.slice a0 l0 c0, .int .u8 t, .int .i64 v] w fun e w' => e = .returned (.bool true) ∧ Below w.heap.size w w' := by
  have HB : Hid (∀ w, Calls Try.prog 19 #[.slice a0 l0 c0, .int .u8 t, .int .i64 v] w fun e w' => e = .returned (.bool true) ∧ w' = w) := by
    intro w; rw [← h]; exact bytes19_any a0 l0 c0 t v w
  have hl0 : l0 ≤ 1048576 := by simpa [bytes1B] using h
  clear h
  go_enter Try.func6, Try.ntmps6
  go_wp2_with (go_at_call 19; refine (HB.out _).mono ?_; rintro e w' ⟨rfl, rfl⟩)
  go_ret
  exact ⟨rfl, Below.refl _ _⟩

set_option maxRecDepth 100000 in
set_option maxHeartbeats 1600000 in
theorem agree_main (a0 : Option Addr) (l0 c0 : Nat) (t v : Int) (zs : List Int) (w : World) (h : bytes1B l0 = true) (h0 : Rd .u8 w a0 l0 zs) (n0 : a0 = none → l0 = 0) (hv1 : 0 ≤ v) (hv2 : v ≤ 9223372036854775807) :
    Calls Try.prog 6 #[.slice a0 l0 c0, .int .u8 t, .int .i64 v] w fun e w' => e = .returned (.bool true) ∧ Below w.heap.size w w' := by
  have HB : Hid (∀ w, Calls Try.prog 19 #[.slice a0 l0 c0, .int .u8 t, .int .i64 v] w fun e w' => e = .returned (.bool true) ∧ w' = w) := by
    intro w; rw [← h]; exact bytes19_any a0 l0 c0 t v w
  have hl0 : l0 ≤ 1048576 := by simpa [bytes1B] using h
  have H0 : Hid (Rd .u8 w a0 l0 zs ∧ (a0 = none → l0 = 0)) := ⟨h0, n0⟩
  clear h h0 n0
  go_enter Try.func6, Try.ntmps6
  go_wp2_with (go_at_call 19; refine (HB.out _).mono ?_; rintro e w1 ⟨rfl, rfl⟩)
  clear HB
  refine (clone_any a0 l0 c0 zs w1 H0.out.1 hl0 H0.out.2).mono ?_
  rintro e w2 ⟨b1, rfl, rb1, nb1, hb2⟩
  go_wp2_with fail
  refine (clone_any a0 l0 c0 zs w2 (H0.out.1.below hb2) hl0 H0.out.2).mono ?_
  rintro e w3 ⟨b2, rfl, rb2, nb2, hb3⟩
  have R3 : Hid (Rd .u8 w3 b1 l0 zs ∧ (b1 = none → l0 = 0) ∧ Rd .u8 w3 b2 l0 zs ∧ (b2 = none → l0 = 0) ∧ Below w1.heap.size w1 w3) := ⟨rb1.below hb3, nb1, rb2, nb2, hb2.trans (hb3.mono hb2.size)⟩
  clear rb1 nb1 rb2 nb2 hb2 hb3 H0
  go_wp2_with fail
  refine (zzint_any b1 l0 zs t v w3 R3.out.1 R3.out.2.1 hl0 (by omega) hv2).mono ?_
  rintro e w4 ⟨s, hF, hs, g1, cap1, n1, rfl, hA⟩
  have R4 : Hid (AW w3 w4 (.slice (some ⟨g1, 0, none⟩) n1 cap1) n1 (zs ++ [t] ++ lenB s ++ be s v) ∧ Fit v s ∧ s ≤ 8 ∧ Rd .u8 w4 b2 l0 zs ∧ Below w1.heap.size w1 w4) := ⟨hA, hF, hs, R3.out.2.2.1.below hA.2, R3.out.2.2.2.2.trans (hA.2.mono R3.out.2.2.2.2.size)⟩
  have NB : Hid (b2 = none → l0 = 0) := R3.out.2.2.2.1
  have HL : Hid (zs.length = l0) := R3.out.1.1
  clear hA hF hs R3
  go_wp2_with fail
  refine (zzuint_any b2 l0 zs t v w4 R4.out.2.2.2.1 NB.out hl0 hv1 (by omega)).mono ?_
  rintro e w5 ⟨r, hF, hr, g2, cap2, n2, rfl, hA⟩
  obtain rfl : s = r := fit_one hv1 R4.out.2.1 hF
  have o1 := owns_below R4.out.1.1 hA.2
  have e1 : n1 = (zs ++ [t] ++ lenB s ++ be s v).length := by have := o1.1; simp only [List.length_map, Nat.mul_one] at this; exact this.symm
  have e2 : n2 = (zs ++ [t] ++ lenB s ++ be s v).length := by have := hA.1.1; simp only [List.length_map, Nat.mul_one] at this; exact this.symm
  obtain rfl : n1 = n2 := e1.trans e2.symm
  have hs8 := R4.out.2.2.1
  have hn : n1 ≤ 2097152 := by
    rw [e1, lenB_small s (by omega)]
    simp only [List.length_append, List.length_cons, List.length_nil, be_length, HL.out]
    omega
  have HS : Hid (Calls Try.prog 13 #[.slice (some ⟨g1, 0, none⟩) n1 cap1, .slice (some ⟨g2, 0, none⟩) n1 cap2] w5 fun e w' => e = .returned (.bool true) ∧ Below w5.heap.size w5 w') :=
    same_any _ _ n1 cap1 cap2 _ w5 (rd_of_owns o1) (rd_of_owns hA.1) hn
  have B5 : Hid (Below w1.heap.size w1 w5) := R4.out.2.2.2.2.trans (hA.2.mono R4.out.2.2.2.2.size)
  clear o1 e1 e2 hs8 hA hF R4 hn
  go_wp2_with fail
  refine HS.out.mono ?_
  rintro e w6 ⟨rfl, hb6⟩
  have B6 : Hid (Below w1.heap.size w1 w6) := B5.out.trans (hb6.mono B5.out.size)
  clear hb6
  go_wp2
  go_ret
  exact ⟨rfl, B6.out⟩
end Go.Proofs.Qxb6001291a
