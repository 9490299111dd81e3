/-
  appendInt (24), ZZappendInt (17): the fewest bytes of two's complement.
-/
import Derived.Test.Qxb6001291aElem
import Derived.Test.Qxb6001291aBytes
namespace Go.Proofs.Qxb6001291a
open Go.RowKit
set_option linter.unusedVariables false

/-- The array of eight bytes: k of them have been laid, the least significant at place s - 1. -/
def CI (w0 wr : World) (s k : Nat) (v : Int) : Prop :=
  ∃ cl : List Int, cl.length = 8 ∧ (∀ j, j < k → cl.getD (s - 1 - j) 0 = v / 2 ^ (8 * j) % 256) ∧ wr.ownsRow w0.heap.size 39 1 (.slice (some ⟨w0.heap.size, 0, none⟩) 8 8) 8 (cl.map (Value.int .u8)) ∧ Below w0.heap.size w0 wr

theorem ci_start (w : World) (s : Nat) (v : Int) : CI w (w.alloc (.cells #[.int .u8 0, .int .u8 0, .int .u8 0, .int .u8 0, .int .u8 0, .int .u8 0, .int .u8 0, .int .u8 0] 39)) s 0 v :=
  ⟨[0, 0, 0, 0, 0, 0, 0, 0], rfl, fun j hj => by omega, World.ownsRow_lit w _ 8 (Nat.le_refl _) (by decide) rfl, (Below.refl _ _).alloc (Nat.le_refl _) _⟩

theorem ci_step {w0 wr : World} {s k : Nat} {v : Int} (h : CI w0 wr s k v) (hk : k < s) (hs : s ≤ 8) :
    CI w0 (wr.setCell ⟨w0.heap.size, s - 1 - k, none⟩ (.int .u8 (v / 2 ^ (8 * k) % 256))) s (k + 1) v := by
  obtain ⟨cl, h1, h2, h3, h4⟩ := h
  refine ⟨cl.set (s - 1 - k) (v / 2 ^ (8 * k) % 256), by simpa using h1, ?_, ?_, h4.setCell (Nat.le_refl _) _⟩
  · intro j hj
    rw [getD_set]
    by_cases e : j = k
    · subst e
      rw [if_pos ⟨rfl, by omega⟩]
    · rw [if_neg (fun h => by omega)]
      exact h2 j (by omega)
  · have := (h3.stored (s - 1 - k) (.int .u8 (v / 2 ^ (8 * k) % 256))).1
    rw [← List.map_set] at this
    exact this

theorem ci_cell {w0 wr : World} {s k : Nat} {v : Int} (h : CI w0 wr s k v) (i : Nat) (hi : i < 8) : (∃ x, wr.cell? ⟨w0.heap.size, i, none⟩ = some (.int .u8 x)) ∧ wr.frozen? ⟨w0.heap.size, i, none⟩ = false := by
  obtain ⟨cl, h1, h2, h3, h4⟩ := h
  exact ⟨⟨_, owns_cell h3 i hi⟩, h3.frozenAt i⟩

theorem ci_end {w0 wr : World} {s : Nat} {v : Int} (h : CI w0 wr s s v) (hs : s ≤ 8) : Rd .u8 wr (some ⟨w0.heap.size, 0, none⟩) s (be s v) ∧ Below w0.heap.size w0 wr := by
  obtain ⟨cl, h1, h2, h3, h4⟩ := h
  refine ⟨⟨be_length s v, Or.inr ⟨w0.heap.size, 0, rfl, fun j hj => ?_⟩⟩, h4⟩
  rw [Nat.zero_add, owns_cell h3 j (by omega), be_getD s v j hj]
  have := h2 (s - 1 - j) (by omega)
  rw [show s - 1 - (s - 1 - j) = j by omega] at this
  rw [this]

theorem lenB_small (s : Nat) (h : s < 128) : lenB s = [(s : Int)] := by unfold lenB; rw [if_pos h]

/-- What appendInt and appendUint hand back. -/
def Wrote (w w' : World) (zs : List Int) (t v : Int) (s : Nat) (e : Ending) : Prop :=
  ∃ g cap n', e = .returned (.slice (some ⟨g, 0, none⟩) n' cap) ∧ AW w w' (.slice (some ⟨g, 0, none⟩) n' cap) n' (zs ++ [t] ++ lenB s ++ be s v)

set_option maxRecDepth 100000 in
set_option maxHeartbeats 4000000 in
theorem int_any (a : Option Addr) (n : Nat) (zs : List Int) (t v : Int) (w : World) (hb : Rd .u8 w a n zs) (hbn : a = none → n = 0) (hn : n ≤ 1048576) (hv1 : -9223372036854775808 ≤ v) (hv2 : v ≤ 9223372036854775807) :
    Calls Try.prog 24 #[.slice a n n, .int .u8 t, .int .i64 v] w fun e w' => ∃ s, Fit v s ∧ s ≤ 8 ∧ Wrote w w' zs t v s e := by
  have HB : Hid (Rd .u8 w a n zs ∧ (a = none → n = 0)) := ⟨hb, hbn⟩
  have HV : Hid (-9223372036854775808 ≤ v ∧ v ≤ 9223372036854775807) := ⟨hv1, hv2⟩
  clear hb hbn
  go_enter Try.func24, Try.ntmps24
  go_wp2_with fail
  go_loopw [7] (fun i wr => ∃ s : Nat, 1 ≤ s ∧ s ≤ 8 ∧ i = .int .i64 s ∧ wr = w ∧ Hid (s = 1 ∨ (v / 2 ^ (8 * (s - 1) - 1) ≠ 0 ∧ v / 2 ^ (8 * (s - 1) - 1) ≠ -1))) (fun i _ => 8 - (intOf i).toNat)
  case atStart => exact ⟨1, Nat.le_refl _, by omega, rfl, rfl, Or.inl rfl⟩
  case round =>
    obtain ⟨s, hs1, hs2, rfl, rfl, HM⟩ := hrel
    by_cases h8 : s < 8
    · by_cases hz : v / 2 ^ (8 * s - 1) = 0
      · have HF : Hid (Fit v s) := ⟨hs1, Or.inl hz, HM.out⟩
        go_wp2_with fail
        obtain ⟨wo, rfl⟩ : ∃ wo : World, wo = wr := ⟨_, rfl⟩
        go_loopw [9, 31] (fun _ i wq => ∃ k : Nat, k ≤ s ∧ i = .int .i64 k ∧ Hid (CI wo wq s k v)) (fun _ i _ => s - (intOf i).toNat)
        case atStart => exact ⟨0, Nat.zero_le _, rfl, ci_start wo s v⟩
        case round =>
          obtain ⟨k, hk, rfl, HC⟩ := hrel
          by_cases hlt : k < s
          · obtain ⟨⟨x, cx⟩, fx⟩ := ci_cell HC.out (s - 1 - k) (by omega)
            have p1 : (0 : Int) ≤ (s : Int) - 1 - (k : Int) := by omega
            have p2 : (s : Int) - 1 - (k : Int) < 8 := by omega
            have p3 : ((s : Int) - 1 - (k : Int)).toNat = s - 1 - k := by omega
            go_wp2_with fail
            go_roundw
            case rel => exact ⟨k + 1, by omega, by go_num, ci_step HC.out hlt hs2⟩
            case measure => simp [intOf]; omega
          · obtain rfl : s = k := by omega
            have hs7 : (s : Int) ≤ 8 := by omega
            go_wp2_with fail
            refine (elem_any a (some ⟨wo.heap.size, 0, none⟩) n s 8 zs (be s v) t wr (HB.out.1.below (ci_end HC.out hs2).2) HB.out.2 (ci_end HC.out hs2).1 (fun e => by cases e) hn (by omega)).mono ?_
            rintro e w2 ⟨g, cap, n', rfl, hA⟩
            have HA : Hid (AW wo w2 (.slice (some ⟨g, 0, none⟩) n' cap) n' (zs ++ [t] ++ lenB s ++ be s v)) := ⟨owns_mono hA.1 (ci_end HC.out hs2).2.size, (ci_end HC.out hs2).2.trans (hA.2.mono (ci_end HC.out hs2).2.size)⟩
            clear hA
            go_wp2
            go_ret
            exact ⟨s, HF.out, hs2, g, cap, n', rfl, HA.out⟩
      · by_cases hm : v / 2 ^ (8 * s - 1) = -1
        · have HF : Hid (Fit v s) := ⟨hs1, Or.inr hm, HM.out⟩
          clear hz
          go_wp2_with fail
          obtain ⟨wo, rfl⟩ : ∃ wo : World, wo = wr := ⟨_, rfl⟩
          go_loopw [9, 31] (fun _ i wq => ∃ k : Nat, k ≤ s ∧ i = .int .i64 k ∧ Hid (CI wo wq s k v)) (fun _ i _ => s - (intOf i).toNat)
          case atStart => exact ⟨0, Nat.zero_le _, rfl, ci_start wo s v⟩
          case round =>
            obtain ⟨k, hk, rfl, HC⟩ := hrel
            by_cases hlt : k < s
            · obtain ⟨⟨x, cx⟩, fx⟩ := ci_cell HC.out (s - 1 - k) (by omega)
              have p1 : (0 : Int) ≤ (s : Int) - 1 - (k : Int) := by omega
              have p2 : (s : Int) - 1 - (k : Int) < 8 := by omega
              have p3 : ((s : Int) - 1 - (k : Int)).toNat = s - 1 - k := by omega
              go_wp2_with fail
              go_roundw
              case rel => exact ⟨k + 1, by omega, by go_num, ci_step HC.out hlt hs2⟩
              case measure => simp [intOf]; omega
            · obtain rfl : s = k := by omega
              have hs7 : (s : Int) ≤ 8 := by omega
              go_wp2_with fail
              refine (elem_any a (some ⟨wo.heap.size, 0, none⟩) n s 8 zs (be s v) t wr (HB.out.1.below (ci_end HC.out hs2).2) HB.out.2 (ci_end HC.out hs2).1 (fun e => by cases e) hn (by omega)).mono ?_
              rintro e w2 ⟨g, cap, n', rfl, hA⟩
              have HA : Hid (AW wo w2 (.slice (some ⟨g, 0, none⟩) n' cap) n' (zs ++ [t] ++ lenB s ++ be s v)) := ⟨owns_mono hA.1 (ci_end HC.out hs2).2.size, (ci_end HC.out hs2).2.trans (hA.2.mono (ci_end HC.out hs2).2.size)⟩
              clear hA
              go_wp2
              go_ret
              exact ⟨s, HF.out, hs2, g, cap, n', rfl, HA.out⟩
        · have HX : Hid (v / 2 ^ (8 * s - 1) ≠ 0 ∧ v / 2 ^ (8 * s - 1) ≠ -1) := ⟨hz, hm⟩
          obtain ⟨d, hd⟩ : ∃ d, v / 2 ^ (8 * s - 1) = d := ⟨_, rfl⟩
          rw [hd] at hz hm
          have hz' : (d == 0) = false := by simpa using hz
          have hm' : (d == -1) = false := by simpa using hm
          have hz2 : (d != 0) = true := by simpa using hz
          have hm2 : (d != -1) = true := by simpa using hm
          go_wp2_with fail
          go_roundw
          case rel => exact ⟨s + 1, by omega, by omega, by go_num, (by first | rfl | trivial), Or.inr (by rw [Nat.add_sub_cancel]; exact HX.out)⟩
          case measure => simp [intOf]; omega
    · have HF : Hid (Fit v s) := by
        obtain rfl : s = 8 := by omega
        refine ⟨hs1, ?_, HM.out⟩
        have := HV.out
        have e : (2 : Int) ^ (8 * 8 - 1) = 9223372036854775808 := by decide
        rw [e]
        omega
      go_wp2_with fail
      obtain ⟨wo, rfl⟩ : ∃ wo : World, wo = wr := ⟨_, rfl⟩
      go_loopw [9, 31] (fun _ i wq => ∃ k : Nat, k ≤ s ∧ i = .int .i64 k ∧ Hid (CI wo wq s k v)) (fun _ i _ => s - (intOf i).toNat)
      case atStart => exact ⟨0, Nat.zero_le _, rfl, ci_start wo s v⟩
      case round =>
        obtain ⟨k, hk, rfl, HC⟩ := hrel
        by_cases hlt : k < s
        · obtain ⟨⟨x, cx⟩, fx⟩ := ci_cell HC.out (s - 1 - k) (by omega)
          have p1 : (0 : Int) ≤ (s : Int) - 1 - (k : Int) := by omega
          have p2 : (s : Int) - 1 - (k : Int) < 8 := by omega
          have p3 : ((s : Int) - 1 - (k : Int)).toNat = s - 1 - k := by omega
          go_wp2_with fail
          go_roundw
          case rel => exact ⟨k + 1, by omega, by go_num, ci_step HC.out hlt hs2⟩
          case measure => simp [intOf]; omega
        · obtain rfl : s = k := by omega
          have hs7 : (s : Int) ≤ 8 := by omega
          go_wp2_with fail
          refine (elem_any a (some ⟨wo.heap.size, 0, none⟩) n s 8 zs (be s v) t wr (HB.out.1.below (ci_end HC.out hs2).2) HB.out.2 (ci_end HC.out hs2).1 (fun e => by cases e) hn (by omega)).mono ?_
          rintro e w2 ⟨g, cap, n', rfl, hA⟩
          have HA : Hid (AW wo w2 (.slice (some ⟨g, 0, none⟩) n' cap) n' (zs ++ [t] ++ lenB s ++ be s v)) := ⟨owns_mono hA.1 (ci_end HC.out hs2).2.size, (ci_end HC.out hs2).2.trans (hA.2.mono (ci_end HC.out hs2).2.size)⟩
          clear hA
          go_wp2
          go_ret
          exact ⟨s, HF.out, hs2, g, cap, n', rfl, HA.out⟩


set_option maxHeartbeats 400000 in
theorem zzint_any (a : Option Addr) (n : Nat) (zs : List Int) (t v : Int) (w : World) (hb : Rd .u8 w a n zs) (hbn : a = none → n = 0) (hn : n ≤ 1048576) (hv1 : -9223372036854775808 ≤ v) (hv2 : v ≤ 9223372036854775807) :
    Calls Try.prog 17 #[.slice a n n, .int .u8 t, .int .i64 v] w fun e w' => ∃ s, Fit v s ∧ s ≤ 8 ∧ Wrote w w' zs t v s e := by
  have HC : Hid (Calls Try.prog 24 #[.slice a n n, .int .u8 t, .int .i64 v] w fun e w' => ∃ s, Fit v s ∧ s ≤ 8 ∧ Wrote w w' zs t v s e) := int_any a n zs t v w hb hbn hn hv1 hv2
  clear hb hbn
  go_enter Try.func17, Try.ntmps17
  go_wp2_with fail
  refine HC.out.mono ?_
  rintro e w' ⟨s, hF, hs, g, cap, n', rfl, hA⟩
  have HA : Hid (Fit v s ∧ s ≤ 8 ∧ AW w w' (.slice (some ⟨g, 0, none⟩) n' cap) n' (zs ++ [t] ++ lenB s ++ be s v)) := ⟨hF, hs, hA⟩
  clear hA HC hF hs
  go_wp2
  go_ret
  exact ⟨s, HA.out.1, HA.out.2.1, g, cap, n', rfl, HA.out.2.2⟩
end Go.Proofs.Qxb6001291a
