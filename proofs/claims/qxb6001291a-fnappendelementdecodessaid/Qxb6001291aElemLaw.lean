/-
  FnAppendElementDecodes (3): the law, out of the contracts of its callees.
-/
import Derived.Test.Qxb6001291aParseAny
namespace Go.Proofs.Qxb6001291a
open Go.RowKit
set_option linter.unusedVariables false

set_option maxHeartbeats 400000 in
theorem elemOut_bytes (a0 a2 : Option Addr) (l0 c0 l2 c2 : Nat) (t : Int) (w : World) (h : bytes2B l0 l2 = false) :
    Calls Try.prog 3 #[.slice a0 l0 c0, .int .u8 t, .slice a2 l2 c2] w fun e w' => e = .returned (.bool true) ∧ Below w.heap.size w w' := by
  have HB : Hid (∀ w, Calls Try.prog 10 #[.slice a0 l0 c0, .int .u8 t, .slice a2 l2 c2] w fun e w' => e = .returned (.bool false) ∧ w' = w) := by
    intro w; rw [← h]; exact bytes10_any a0 a2 l0 c0 l2 c2 t w
  clear h
  go_enter Try.func3, Try.ntmps3
  go_wp2_with (go_at_call 10; refine (HB.out _).mono ?_; rintro e w' ⟨rfl, rfl⟩)
  go_ret
  exact ⟨rfl, Below.refl _ _⟩

set_option maxRecDepth 100000 in
set_option maxHeartbeats 1600000 in
theorem elem_main (a0 a2 : Option Addr) (l0 c0 l2 c2 : Nat) (t : Int) (zs cs : List Int) (w : World) (h : bytes2B l0 l2 = true) (h0 : Rd .u8 w a0 l0 zs) (h2 : Rd .u8 w a2 l2 cs) (n0 : a0 = none → l0 = 0) (n2 : a2 = none → l2 = 0) :
    Calls Try.prog 3 #[.slice a0 l0 c0, .int .u8 t, .slice a2 l2 c2] w fun e w' => e = .returned (.bool true) ∧ Below w.heap.size w w' := by
  have HB : Hid (∀ w, Calls Try.prog 10 #[.slice a0 l0 c0, .int .u8 t, .slice a2 l2 c2] w fun e w' => e = .returned (.bool true) ∧ w' = w) := by
    intro w; rw [← h]; exact bytes10_any a0 a2 l0 c0 l2 c2 t w
  have hlen : l0 + l2 ≤ 1048576 := by simpa [bytes2B] using h
  have H0 : Hid (Rd .u8 w a0 l0 zs ∧ Rd .u8 w a2 l2 cs ∧ (a0 = none → l0 = 0) ∧ (a2 = none → l2 = 0)) := ⟨h0, h2, n0, n2⟩
  clear h h0 h2 n0 n2
  have hl0 : l0 ≤ 1048576 := by omega
  have hl2 : l2 ≤ 1048576 := by omega
  go_enter Try.func3, Try.ntmps3
  go_wp2_with (go_at_call 10; refine (HB.out _).mono ?_; rintro e w1 ⟨rfl, rfl⟩)
  clear HB
  refine (clone_any a0 l0 c0 zs w1 H0.out.1 hl0 H0.out.2.2.1).mono ?_
  rintro e w2 ⟨b, rfl, rb2, nb, hb2⟩
  go_wp2_with fail
  refine (clone_any a2 l2 c2 cs w2 (H0.out.2.1.below hb2) hl2 H0.out.2.2.2).mono ?_
  rintro e w3 ⟨c, rfl, rc3, nc, hb3⟩
  have R3 : Hid (Rd .u8 w3 b l0 zs ∧ (b = none → l0 = 0) ∧ Rd .u8 w3 c l2 cs ∧ (c = none → l2 = 0) ∧ Below w1.heap.size w1 w3) := ⟨rb2.below hb3, nb, rc3, nc, hb2.trans (hb3.mono hb2.size)⟩
  clear rb2 nb rc3 nc hb2 hb3 H0
  go_wp2_with fail
  refine (zzelem_any b c l0 l2 l2 zs cs t w3 R3.out.1 R3.out.2.1 R3.out.2.2.1 (fun e => ⟨R3.out.2.2.2.1 e, R3.out.2.2.2.1 e⟩) hl0 hl2).mono ?_
  rintro e w4 ⟨g, cap, n, rfl, hA⟩
  have hz : zs.length = l0 := R3.out.1.1
  have hown := hA.1
  rw [List.append_assoc, List.append_assoc] at hown
  obtain ⟨hle, hhead⟩ := head_rd hown hz
  have hcap := (cap_of_owns hown).1
  have hcm := (cap_of_owns hown).2
  unfold maxLen at hcm
  have HA : Hid (AW w3 w4 (.slice (some ⟨g, 0, none⟩) n cap) n (zs ++ [t] ++ lenB l2 ++ cs)) := hA
  have HS : Hid (Calls Try.prog 13 #[.slice (some ⟨g, 0, none⟩) l0 cap, .slice b l0 l0] w4 fun e w' => e = .returned (.bool true) ∧ Below w4.heap.size w4 w') :=
    same_any _ _ l0 cap l0 zs w4 hhead (R3.out.1.below hA.2) (by omega)
  have HR : Hid (Rd .u8 w4 c l2 cs ∧ Below w1.heap.size w1 w4) := ⟨R3.out.2.2.1.below hA.2, R3.out.2.2.2.2.trans (hA.2.mono R3.out.2.2.2.2.size)⟩
  have HL : Hid (zs.length = l0 ∧ cs.length = l2) := ⟨hz, R3.out.2.2.1.1⟩
  clear hown hhead hA hz R3
  have q1 : (l0 : Int) ≤ (n : Int) := by omega
  have q2 : (l0 : Int) ≤ (cap : Int) := by omega
  go_wp2_with fail
  refine HS.out.mono ?_
  rintro e w5 ⟨rfl, hb5⟩
  have HB5 : Hid (Below w4.heap.size w4 w5) := hb5
  clear hb5 HS
  go_wp2_with fail
  refine (parse_any w3.heap.size g n cap l0 l2 zs cs t w5 (owns_below HA.out.1 HB5.out) HL.out.1 HL.out.2 hl0 hl2).mono ?_
  rintro e w6 ⟨ac, cc, rfl, r6, hb6⟩
  have R6 : Hid (Rd .u8 w6 ac l2 cs ∧ Rd .u8 w6 c l2 cs ∧ Below w1.heap.size w1 w6) :=
    ⟨r6, (HR.out.1.below HB5.out).below hb6, (HR.out.2.trans (HB5.out.mono HR.out.2.size)).trans (hb6.mono (Nat.le_trans HR.out.2.size HB5.out.size))⟩
  clear r6 hb6 HA HB5 HR
  go_wp2_with fail
  refine (same_any _ _ l2 cc l2 cs w6 R6.out.1 R6.out.2.1 (by omega)).mono ?_
  rintro e w7 ⟨rfl, hb7⟩
  have B7 : Hid (Below w1.heap.size w1 w7) := R6.out.2.2.trans (hb7.mono R6.out.2.2.size)
  clear hb7
  go_wp2
  go_ret
  exact ⟨rfl, B7.out⟩
end Go.Proofs.Qxb6001291a
