/-
  appendElement (23): what it appends: the tag, the length in its shortest form, the contents.
-/
import Derived.Test.Qxb6001291aApp
namespace Go.Proofs.Qxb6001291a
open Go.RowKit
set_option linter.unusedVariables false

/-- The bytes of the length m (up to 2^24). -/
def lenB (m : Nat) : List Int :=
  if m < 128 then [(m : Int)] else if m < 256 then [129, (m : Int)] else if m < 65536 then [130, (m : Int) / 256, (m : Int) % 256] else [131, (m : Int) / 65536, (m : Int) / 256 % 256, (m : Int) % 256]

set_option maxRecDepth 100000 in
set_option maxHeartbeats 800000 in
theorem elem_short (a ac : Option Addr) (n m cc : Nat) (zs cs : List Int) (t : Int) (w : World) (hb : Rd .u8 w a n zs) (hbn : a = none → n = 0) (hc : Rd .u8 w ac m cs)
    (hnone : ac = none → m = 0 ∧ cc = 0) (hn : n ≤ 1048576) (hm : m < 128) :
    Calls Try.prog 23 #[.slice a n n, .int .u8 t, .slice ac m cc] w fun e w' => ∃ g cap' n', e = .returned (.slice (some ⟨g, 0, none⟩) n' cap') ∧ AW w w' (.slice (some ⟨g, 0, none⟩) n' cap') n' (zs ++ [t] ++ lenB m ++ cs) := by
  have HB : Hid (Rd .u8 w a n zs ∧ (a = none → n = 0)) := ⟨hb, hbn⟩
  have HC : Hid (Rd .u8 w ac m cs) := hc
  have HNN : Hid (ac = none → m = 0 ∧ cc = 0) := hnone
  have HL : Hid (lenB m = [(m : Int)]) := by show _ = _; unfold lenB; rw [if_pos hm]
  have hm1 : (m : Int) < 128 := by omega
  clear hb hbn hc hnone
  go_enter Try.func23, Try.ntmps23
  go_wp2_with (first | (at_builtin; refine app_first rfl (.tmp 11) (.tmp 13) rfl rfl rfl HB.out.1 HB.out.2 (by omega) ?_; intro g1 cap1 w1 A1) | (at_builtin; refine app_one rfl (.tmp 19) (.tmp 22) rfl rfl rfl A1 (by omega) ?_; intro g2 cap2 w2 A2) | (at_builtin; refine app_many rfl (.tmp 51) (.tmp 52) rfl rfl rfl A2 (HC.out.below A2.2) HNN.out (by omega) ?_; intro g3 cap3 w3 A3))
  go_ret
  rw [HL.out]
  exact ⟨_, _, _, rfl, A3⟩

set_option maxRecDepth 100000 in
set_option maxHeartbeats 1600000 in
theorem elem_long1 (a ac : Option Addr) (n m cc : Nat) (zs cs : List Int) (t : Int) (w : World) (hb : Rd .u8 w a n zs) (hbn : a = none → n = 0) (hc : Rd .u8 w ac m cs)
    (hnone : ac = none → m = 0 ∧ cc = 0) (hn : n ≤ 1048576) (hm : 128 ≤ m) (hm2 : m < 256) :
    Calls Try.prog 23 #[.slice a n n, .int .u8 t, .slice ac m cc] w fun e w' => ∃ g cap' n', e = .returned (.slice (some ⟨g, 0, none⟩) n' cap') ∧ AW w w' (.slice (some ⟨g, 0, none⟩) n' cap') n' (zs ++ [t] ++ lenB m ++ cs) := by
  have HB : Hid (Rd .u8 w a n zs ∧ (a = none → n = 0)) := ⟨hb, hbn⟩
  have HC : Hid (Rd .u8 w ac m cs) := hc
  have HNN : Hid (ac = none → m = 0 ∧ cc = 0) := hnone
  have HL : Hid (lenB m = [129, (m : Int)]) := by show _ = _; unfold lenB; rw [if_neg (by omega)]; rw [if_pos (by omega)]
  clear hb hbn hc hnone
  go_enter Try.func23, Try.ntmps23
  go_wp2_with (first | (at_builtin; refine app_first rfl (.tmp 11) (.tmp 13) rfl rfl rfl HB.out.1 HB.out.2 (by omega) ?_; intro g1 cap1 w1 A1))
  refine wp_loop_rounds 2 ?_
  rw [rounds_succ]
  go_wp2_with fail
  rw [rounds_succ]
  go_wp2_with (first | (at_builtin; refine app_one rfl (.tmp 31) (.tmp 35) rfl rfl rfl A1 (by omega) ?_; intro g2 cap2 w2 A2))
  refine wp_loop_rounds 2 ?_
  rw [rounds_succ]
  go_wp2_with (first | (at_builtin; refine app_one rfl (.tmp 43) (.tmp 49) rfl rfl rfl A2 (by omega) ?_; intro g3 cap3 w3 A3))
  rw [rounds_succ]
  go_wp2_with (first | (at_builtin; refine app_many rfl (.tmp 51) (.tmp 52) rfl rfl rfl A3 (HC.out.below A3.2) HNN.out (by omega) ?_; intro g4 cap4 w4 A4))
  go_ret
  rw [HL.out]
  refine ⟨_, _, _, rfl, ?_⟩
  simpa only [List.append_assoc, List.cons_append, List.nil_append] using A4

set_option maxRecDepth 100000 in
set_option maxHeartbeats 1600000 in
theorem elem_long2 (a ac : Option Addr) (n m cc : Nat) (zs cs : List Int) (t : Int) (w : World) (hb : Rd .u8 w a n zs) (hbn : a = none → n = 0) (hc : Rd .u8 w ac m cs)
    (hnone : ac = none → m = 0 ∧ cc = 0) (hn : n ≤ 1048576) (hm : 256 ≤ m) (hm2 : m < 65536) :
    Calls Try.prog 23 #[.slice a n n, .int .u8 t, .slice ac m cc] w fun e w' => ∃ g cap' n', e = .returned (.slice (some ⟨g, 0, none⟩) n' cap') ∧ AW w w' (.slice (some ⟨g, 0, none⟩) n' cap') n' (zs ++ [t] ++ lenB m ++ cs) := by
  have HB : Hid (Rd .u8 w a n zs ∧ (a = none → n = 0)) := ⟨hb, hbn⟩
  have HC : Hid (Rd .u8 w ac m cs) := hc
  have HNN : Hid (ac = none → m = 0 ∧ cc = 0) := hnone
  have HL : Hid (lenB m = [130, (m : Int) / 256, (m : Int) % 256]) := by show _ = _; unfold lenB; rw [if_neg (by omega)]; rw [if_neg (by omega)]; rw [if_pos (by omega)]
  clear hb hbn hc hnone
  go_enter Try.func23, Try.ntmps23
  go_wp2_with (first | (at_builtin; refine app_first rfl (.tmp 11) (.tmp 13) rfl rfl rfl HB.out.1 HB.out.2 (by omega) ?_; intro g1 cap1 w1 A1))
  refine wp_loop_rounds 3 ?_
  rw [rounds_succ]
  go_wp2_with fail
  rw [rounds_succ]
  go_wp2_with fail
  rw [rounds_succ]
  go_wp2_with (first | (at_builtin; refine app_one rfl (.tmp 31) (.tmp 35) rfl rfl rfl A1 (by omega) ?_; intro g2 cap2 w2 A2))
  refine wp_loop_rounds 3 ?_
  rw [rounds_succ]
  go_wp2_with (first | (at_builtin; refine app_one rfl (.tmp 43) (.tmp 49) rfl rfl rfl A2 (by omega) ?_; intro g3 cap3 w3 A3))
  rw [rounds_succ]
  go_wp2_with (first | (at_builtin; refine app_one rfl (.tmp 43) (.tmp 49) rfl rfl rfl A3 (by omega) ?_; intro g4 cap4 w4 A4))
  rw [rounds_succ]
  go_wp2_with (first | (at_builtin; refine app_many rfl (.tmp 51) (.tmp 52) rfl rfl rfl A4 (HC.out.below A4.2) HNN.out (by omega) ?_; intro g5 cap5 w5 A5))
  go_ret
  rw [HL.out]
  refine ⟨_, _, _, rfl, ?_⟩
  simpa only [List.append_assoc, List.cons_append, List.nil_append] using A5

set_option maxRecDepth 100000 in
set_option maxHeartbeats 1600000 in
theorem elem_long3 (a ac : Option Addr) (n m cc : Nat) (zs cs : List Int) (t : Int) (w : World) (hb : Rd .u8 w a n zs) (hbn : a = none → n = 0) (hc : Rd .u8 w ac m cs)
    (hnone : ac = none → m = 0 ∧ cc = 0) (hn : n ≤ 1048576) (hm : 65536 ≤ m) (hm2 : m ≤ 1048576) :
    Calls Try.prog 23 #[.slice a n n, .int .u8 t, .slice ac m cc] w fun e w' => ∃ g cap' n', e = .returned (.slice (some ⟨g, 0, none⟩) n' cap') ∧ AW w w' (.slice (some ⟨g, 0, none⟩) n' cap') n' (zs ++ [t] ++ lenB m ++ cs) := by
  have HB : Hid (Rd .u8 w a n zs ∧ (a = none → n = 0)) := ⟨hb, hbn⟩
  have HC : Hid (Rd .u8 w ac m cs) := hc
  have HNN : Hid (ac = none → m = 0 ∧ cc = 0) := hnone
  have HL : Hid (lenB m = [131, (m : Int) / 65536, (m : Int) / 256 % 256, (m : Int) % 256]) := by show _ = _; unfold lenB; rw [if_neg (by omega)]; rw [if_neg (by omega)]; rw [if_neg (by omega)]
  clear hb hbn hc hnone
  go_enter Try.func23, Try.ntmps23
  go_wp2_with (first | (at_builtin; refine app_first rfl (.tmp 11) (.tmp 13) rfl rfl rfl HB.out.1 HB.out.2 (by omega) ?_; intro g1 cap1 w1 A1))
  refine wp_loop_rounds 4 ?_
  rw [rounds_succ]
  go_wp2_with fail
  rw [rounds_succ]
  go_wp2_with fail
  rw [rounds_succ]
  go_wp2_with fail
  rw [rounds_succ]
  go_wp2_with (first | (at_builtin; refine app_one rfl (.tmp 31) (.tmp 35) rfl rfl rfl A1 (by omega) ?_; intro g2 cap2 w2 A2))
  refine wp_loop_rounds 4 ?_
  rw [rounds_succ]
  go_wp2_with (first | (at_builtin; refine app_one rfl (.tmp 43) (.tmp 49) rfl rfl rfl A2 (by omega) ?_; intro g3 cap3 w3 A3))
  rw [rounds_succ]
  go_wp2_with (first | (at_builtin; refine app_one rfl (.tmp 43) (.tmp 49) rfl rfl rfl A3 (by omega) ?_; intro g4 cap4 w4 A4))
  rw [rounds_succ]
  go_wp2_with (first | (at_builtin; refine app_one rfl (.tmp 43) (.tmp 49) rfl rfl rfl A4 (by omega) ?_; intro g5 cap5 w5 A5))
  rw [rounds_succ]
  go_wp2_with (first | (at_builtin; refine app_many rfl (.tmp 51) (.tmp 52) rfl rfl rfl A5 (HC.out.below A5.2) HNN.out (by omega) ?_; intro g6 cap6 w6 A6))
  go_ret
  rw [HL.out]
  refine ⟨_, _, _, rfl, ?_⟩
  simpa only [List.append_assoc, List.cons_append, List.nil_append] using A6

/-- appendElement, whatever the contents up to 2^20 bytes. -/
theorem elem_any (a ac : Option Addr) (n m cc : Nat) (zs cs : List Int) (t : Int) (w : World) (hb : Rd .u8 w a n zs) (hbn : a = none → n = 0) (hc : Rd .u8 w ac m cs)
    (hnone : ac = none → m = 0 ∧ cc = 0) (hn : n ≤ 1048576) (hm : m ≤ 1048576) :
    Calls Try.prog 23 #[.slice a n n, .int .u8 t, .slice ac m cc] w fun e w' => ∃ g cap' n', e = .returned (.slice (some ⟨g, 0, none⟩) n' cap') ∧ AW w w' (.slice (some ⟨g, 0, none⟩) n' cap') n' (zs ++ [t] ++ lenB m ++ cs) := by
  by_cases h1 : m < 128
  · exact elem_short a ac n m cc zs cs t w hb hbn hc hnone hn h1
  · by_cases h2 : m < 256
    · exact elem_long1 a ac n m cc zs cs t w hb hbn hc hnone hn (by omega) h2
    · by_cases h3 : m < 65536
      · exact elem_long2 a ac n m cc zs cs t w hb hbn hc hnone hn (by omega) h3
      · exact elem_long3 a ac n m cc zs cs t w hb hbn hc hnone hn (by omega) hm
end Go.Proofs.Qxb6001291a
