/-
  appendUint (25), ZZappendUint (20): the fewest bytes, led by a zero byte where the top bit would read as a sign.
-/
import Derived.Test.Qxb6001291aUintState
import Derived.Test.Qxb6001291aDecode
namespace Go.Proofs.Qxb6001291a
open Go.RowKit
set_option linter.unusedVariables false

theorem and128_lo (z : Int) (h0 : 0 ≤ z) (h1 : z < 256) : (bits .and .u8 z 128 = 0 ∧ z / 128 = 0) ∨ (bits .and .u8 z 128 = 128 ∧ z / 128 = 1) := by
  rw [and128 z h0 h1]
  omega

set_option maxRecDepth 100000 in
set_option maxHeartbeats 4000000 in
theorem uint_any (a : Option Addr) (n : Nat) (zs : List Int) (t v : Int) (w : World) (hb : Rd .u8 w a n zs) (hbn : a = none → n = 0) (hn : n ≤ 1048576) (hv1 : 0 ≤ v) (hv2 : v < 18446744073709551616) :
    Calls Try.prog 25 #[.slice a n n, .int .u8 t, .int .u64 v] w fun e w' => ∃ s, Fit v s ∧ s ≤ 9 ∧ Wrote w w' zs t v s e := by
  have HB : Hid (Rd .u8 w a n zs ∧ (a = none → n = 0)) := ⟨hb, hbn⟩
  have HV : Hid (0 ≤ v ∧ v < 18446744073709551616) := ⟨hv1, hv2⟩
  clear hb hbn
  go_enter Try.func25, Try.ntmps25
  go_wp2_with fail
  go_loopw [2, 8] (fun x i wr => ∃ (p : Nat) (u : Int), p ≤ 7 ∧ i = .int .i64 ((p : Int) + 1 + 1) ∧ x = .int .u64 u ∧ 0 ≤ u ∧ u < 18446744073709551616 ∧ Hid (CU w wr p v u)) (fun _ i _ => (intOf i).toNat)
  case atStart => exact ⟨7, v, Nat.le_refl _, rfl, rfl, hv1, hv2, cu_start w v⟩
  case round =>
    obtain ⟨p, u, hp, rfl, rfl, hu0, hu1, HC⟩ := hrel
    obtain ⟨⟨x, cx⟩, fx⟩ := cu_cell HC.out (p + 1) (by omega)
    clear hv1 hv2
    have p1 : (0 : Int) ≤ (p : Int) + 1 := by omega
    have p2 : (p : Int) + 1 < 9 := by omega
    have p3 : ((p : Int) + 1).toNat = p + 1 := by omega
    by_cases hz : u / 256 = 0
    · have hu2 : u < 256 := by omega
      have hum : u % 256 = u := by omega
      have HE := cu_end hp HC.out hz
      rw [hum] at HE
      have q1 : ¬ 9 = p + 1 := by omega
      have q2 : ¬ 9 = p := by omega
      have q3 : (p : Int) + 1 ≤ 9 := by omega
      have q4 : (p : Int) ≤ 9 := by omega
      have q5 : (0 : Int) ≤ (p : Int) := by omega
      rcases and128_lo u hu0 hu2 with ⟨hb1, hb2⟩ | ⟨hb1, hb2⟩
      · have e8 : 9 - (p + 1) = 8 - p := by omega
        have HF : Hid (Fit v (8 - p)) := by have := fit_low hp HC.out HV.out.1 hb2; rw [e8] at this; exact this
        have HR : Hid (Rd .u8 (wr.setCell ⟨w.heap.size, p + 1, none⟩ (.int .u8 u)) (some ⟨w.heap.size, p + 1, none⟩) (8 - p) (be (8 - p) v) ∧ Below w.heap.size w (wr.setCell ⟨w.heap.size, p + 1, none⟩ (.int .u8 u))) := ⟨by have := HE.1; rw [e8] at this; exact this, HE.2.2⟩
        clear HE hb2 hum e8
        go_wp2_with fail
        refine (elem_any a (some ⟨w.heap.size, p + 1, none⟩) n (8 - p) (8 - p) zs (be (8 - p) v) t _ (HB.out.1.below HR.out.2) HB.out.2 HR.out.1 (fun e => by cases e) hn (by omega)).mono ?_
        rintro e w2 ⟨g, cap, n', rfl, hA⟩
        have HA : Hid (AW w w2 (.slice (some ⟨g, 0, none⟩) n' cap) n' (zs ++ [t] ++ lenB (8 - p) ++ be (8 - p) v)) := ⟨owns_mono hA.1 HR.out.2.size, HR.out.2.trans (hA.2.mono HR.out.2.size)⟩
        clear hA
        go_wp2
        go_ret
        exact ⟨_, HF.out, by omega, g, cap, n', rfl, HA.out⟩
      · have HF : Hid (Fit v (9 - p)) := fit_high hp HC.out hz hb2
        have HR : Hid (Rd .u8 (wr.setCell ⟨w.heap.size, p + 1, none⟩ (.int .u8 u)) (some ⟨w.heap.size, p, none⟩) (9 - p) (be (9 - p) v) ∧ Below w.heap.size w (wr.setCell ⟨w.heap.size, p + 1, none⟩ (.int .u8 u))) := ⟨HE.2.1, HE.2.2⟩
        clear HE hb2 hum
        go_wp2_with fail
        refine (elem_any a (some ⟨w.heap.size, p, none⟩) n (9 - p) (9 - p) zs (be (9 - p) v) t _ (HB.out.1.below HR.out.2) HB.out.2 HR.out.1 (fun e => by cases e) hn (by omega)).mono ?_
        rintro e w2 ⟨g, cap, n', rfl, hA⟩
        have HA : Hid (AW w w2 (.slice (some ⟨g, 0, none⟩) n' cap) n' (zs ++ [t] ++ lenB (9 - p) ++ be (9 - p) v)) := ⟨owns_mono hA.1 HR.out.2.size, HR.out.2.trans (hA.2.mono HR.out.2.size)⟩
        clear hA
        go_wp2
        go_ret
        exact ⟨_, HF.out, by omega, g, cap, n', rfl, HA.out⟩
    · obtain ⟨q, rfl, hS⟩ := cu_step hp HC.out HV.out.1 HV.out.2 hz
      have HS : Hid (CU w (wr.setCell ⟨w.heap.size, q + 1 + 1, none⟩ (.int .u8 (u % 256))) q v (u / 256)) := hS
      clear hS
      have hz' : (u / 256 == 0) = false := by simpa using hz
      go_wp2_with fail
      go_roundw
      case rel => exact ⟨q, u / 256, by omega, by go_num, rfl, by omega, by omega, HS⟩
      case measure => simp [intOf]; omega

set_option maxHeartbeats 400000 in
theorem zzuint_any (a : Option Addr) (n : Nat) (zs : List Int) (t v : Int) (w : World) (hb : Rd .u8 w a n zs) (hbn : a = none → n = 0) (hn : n ≤ 1048576) (hv1 : 0 ≤ v) (hv2 : v < 18446744073709551616) :
    Calls Try.prog 20 #[.slice a n n, .int .u8 t, .int .u64 v] w fun e w' => ∃ s, Fit v s ∧ s ≤ 9 ∧ Wrote w w' zs t v s e := by
  have HC : Hid (Calls Try.prog 25 #[.slice a n n, .int .u8 t, .int .u64 v] w fun e w' => ∃ s, Fit v s ∧ s ≤ 9 ∧ Wrote w w' zs t v s e) := uint_any a n zs t v w hb hbn hn hv1 hv2
  clear hb hbn
  go_enter Try.func20, Try.ntmps20
  go_wp2_with fail
  refine HC.out.mono ?_
  rintro e w' ⟨s, hF, hs, g, cap, n', rfl, hA⟩
  have HA : Hid (Fit v s ∧ s ≤ 9 ∧ AW w w' (.slice (some ⟨g, 0, none⟩) n' cap) n' (zs ++ [t] ++ lenB s ++ be s v)) := ⟨hF, hs, hA⟩
  clear hA HC hF hs
  go_wp2
  go_ret
  exact ⟨s, HA.out.1, HA.out.2.1, g, cap, n', rfl, HA.out.2.2⟩
end Go.Proofs.Qxb6001291a
