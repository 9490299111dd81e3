/-
  FnAppendIntDecodes (5): the law, out of the contracts of its callees.
-/
import Derived.Test.Qxb6001291aParseAny
import Derived.Test.Qxb6001291aDecode
namespace Go.Proofs.Qxb6001291a
open Go.RowKit
set_option linter.unusedVariables false

set_option maxHeartbeats 400000 in
theorem intOut_bytes (a0 : Option Addr) (l0 c0 : Nat) (t v : Int) (w : World) (h : bytes1B l0 = false) :
    Calls Try.prog 5 #[.slice a0 l0 c0, .int .u8 t, .int .i64 v] w fun e w' => e = .returned (.bool true) ∧ Below w.heap.size w w' := by
  have HB : Hid (∀ w, Calls Try.prog 16 #[.slice a0 l0 c0, .int .u8 t, .int .i64 v] w fun e w' => e = .returned (.bool false) ∧ w' = w) := by
    intro w; rw [← h]; exact bytes16_any a0 l0 c0 t v w
  clear h
  go_enter Try.func5, Try.ntmps5
  go_wp2_with (go_at_call 16; refine (HB.out _).mono ?_; rintro e w' ⟨rfl, rfl⟩)
  go_ret
  exact ⟨rfl, Below.refl _ _⟩

theorem and128_cases (z : Int) (h0 : 0 ≤ z) (h1 : z < 256) : (bits .and .u8 z 128 = 0 ∧ z / 128 = 0) ∨ (bits .and .u8 z 128 = 128 ∧ z / 128 = 1) := by
  rw [and128 z h0 h1]
  omega

set_option maxRecDepth 100000 in
set_option maxHeartbeats 4000000 in
theorem int_main (a0 : Option Addr) (l0 c0 : Nat) (t v : Int) (zs : List Int) (w : World) (h : bytes1B l0 = true) (h0 : Rd .u8 w a0 l0 zs) (n0 : a0 = none → l0 = 0) (hv1 : -9223372036854775808 ≤ v) (hv2 : v ≤ 9223372036854775807) :
    Calls Try.prog 5 #[.slice a0 l0 c0, .int .u8 t, .int .i64 v] w fun e w' => e = .returned (.bool true) ∧ Below w.heap.size w w' := by
  have HB : Hid (∀ w, Calls Try.prog 16 #[.slice a0 l0 c0, .int .u8 t, .int .i64 v] w fun e w' => e = .returned (.bool true) ∧ w' = w) := by
    intro w; rw [← h]; exact bytes16_any a0 l0 c0 t v w
  have hl0 : l0 ≤ 1048576 := by simpa [bytes1B] using h
  have H0 : Hid (Rd .u8 w a0 l0 zs ∧ (a0 = none → l0 = 0)) := ⟨h0, n0⟩
  have HV : Hid (-9223372036854775808 ≤ v ∧ v ≤ 9223372036854775807) := ⟨hv1, hv2⟩
  clear h h0 n0 hv1 hv2
  go_enter Try.func5, Try.ntmps5
  go_wp2_with (go_at_call 16; refine (HB.out _).mono ?_; rintro e w1 ⟨rfl, rfl⟩)
  clear HB
  refine (clone_any a0 l0 c0 zs w1 H0.out.1 hl0 H0.out.2).mono ?_
  rintro e w3 ⟨b, rfl, rb, nb, hb3⟩
  have R3 : Hid (Rd .u8 w3 b l0 zs ∧ (b = none → l0 = 0) ∧ Below w1.heap.size w1 w3) := ⟨rb, nb, hb3⟩
  clear rb nb hb3 H0
  go_wp2_with fail
  refine (zzint_any b l0 zs t v w3 R3.out.1 R3.out.2.1 hl0 HV.out.1 HV.out.2).mono ?_
  rintro e w4 ⟨s, hF, hs8, g, cap, n, rfl, hA⟩
  have hz : zs.length = l0 := R3.out.1.1
  have hown := hA.1
  rw [List.append_assoc, List.append_assoc] at hown
  obtain ⟨hle, hhead⟩ := head_rd hown hz
  have hcap := (cap_of_owns hown).1
  have hcm := (cap_of_owns hown).2
  unfold maxLen at hcm
  have HA : Hid (AW w3 w4 (.slice (some ⟨g, 0, none⟩) n cap) n (zs ++ [t] ++ lenB s ++ be s v)) := hA
  have HS : Hid (Calls Try.prog 13 #[.slice (some ⟨g, 0, none⟩) l0 cap, .slice b l0 l0] w4 fun e w' => e = .returned (.bool true) ∧ Below w4.heap.size w4 w') :=
    same_any _ _ l0 cap l0 zs w4 hhead (R3.out.1.below hA.2) (by omega)
  have HR : Hid (Below w1.heap.size w1 w4) := R3.out.2.2.trans (hA.2.mono R3.out.2.2.size)
  have HL : Hid (zs.length = l0) := hz
  have HF : Hid (Fit v s) := hF
  have hs1 : 1 ≤ s := hF.1
  clear hown hhead hA hz R3 hF
  have q1 : (l0 : Int) ≤ (n : Int) := by omega
  have q2 : (l0 : Int) ≤ (cap : Int) := by omega
  go_wp2_with fail
  refine HS.out.mono ?_
  rintro e w5 ⟨rfl, hb5⟩
  have HB5 : Hid (Below w4.heap.size w4 w5) := hb5
  clear hb5 HS
  go_wp2_with fail
  refine (parse_any w3.heap.size g n cap l0 s zs (be s v) t w5 (owns_below HA.out.1 HB5.out) HL.out (be_length s v) hl0 (by omega)).mono ?_
  rintro e w6 ⟨ac, cc, rfl, r6, hb6⟩
  have B6 : Hid (Below w1.heap.size w1 w6) := (HR.out.trans (HB5.out.mono HR.out.size)).trans (hb6.mono (Nat.le_trans HR.out.size HB5.out.size))
  have R6 : Hid (Rd .u8 w6 ac s (be s v)) := r6
  clear r6 hb6 HA HB5 HR
  have s1 : (1 : Int) ≤ (s : Int) := by omega
  have s8 : (s : Int) ≤ 8 := by omega
  go_wp2_with fail
  refine (dsig_any ac s cc v w6 R6.out HF.out hs8 HV.out.1 HV.out.2).mono ?_
  rintro e w7 ⟨rfl, rfl⟩
  by_cases hgt : 1 < s
  · obtain ⟨bb, off, rfl, hc⟩ := R6.out.at 0 hs1
    have C0 := hc 0 hs1
    have C1 := hc 1 hgt
    rw [Nat.add_zero] at C0
    obtain ⟨x0, x1⟩ := be_range s v _ (getD_mem (be s v) 0 (by rw [be_length]; exact hs1))
    obtain ⟨y0, y1⟩ := be_range s v _ (getD_mem (be s v) 1 (by rw [be_length]; exact hgt))
    obtain ⟨f1, f2⟩ := fit_least HF.out hgt
    generalize (be s v).getD 0 0 = z0 at *
    generalize (be s v).getD 1 0 = z1 at *
    have hgi : (1 : Int) < (s : Int) := by omega
    have hgj : (0 : Int) < (s : Int) := by omega
    clear hc R6
    rcases and128_cases z1 y0 y1 with ⟨hb1, hb2⟩ | ⟨hb1, hb2⟩
    · have e0 : (z0 == 0) = false := by simp; omega
      clear f1 f2 hb2
      by_cases h255 : z0 = 255
      · have e1 : (z0 == 255) = true := by simpa using h255
        clear h255
        go_wp2
        go_ret
        exact ⟨rfl, B6.out⟩
      · have e1 : (z0 == 255) = false := by simpa using h255
        clear h255
        go_wp2
        go_ret
        exact ⟨rfl, B6.out⟩
    · have e1 : (z0 == 255) = false := by simp; omega
      clear f1 f2 hb2
      by_cases h00 : z0 = 0
      · have e0 : (z0 == 0) = true := by simpa using h00
        clear h00
        go_wp2
        go_ret
        exact ⟨rfl, B6.out⟩
      · have e0 : (z0 == 0) = false := by simpa using h00
        clear h00
        go_wp2
        go_ret
        exact ⟨rfl, B6.out⟩
  · have hgi : ¬ (1 : Int) < (s : Int) := by omega
    go_wp2
    go_ret
    exact ⟨rfl, B6.out⟩
end Go.Proofs.Qxb6001291a
