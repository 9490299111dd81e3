/-
  parseElement (14): it reads back what appendElement wrote.
-/
import Derived.Test.Qxb6001291aReads
import Derived.Laws.BitsAllLaws
namespace Go.Proofs.Qxb6001291a
open Go.RowKit
set_option linter.unusedVariables false

theorem wraps_i64 (n : Int) (h0 : 0 ≤ n) (h1 : n < 2 ^ 62) : IntKind.i64.wrap n = n := by rw [IntKind.wrap_i64]; omega

theorem or8 (x b : Int) (h0 : 0 ≤ x) (h1 : x < 1099511627776) (h2 : 0 ≤ b) (h3 : b < 256) : bits .or .i64 (x * 256) b = x * 256 + b :=
  bits_join .i64 62 (by decide) wraps_i64 8 (x * 256) b (by omega) (by omega) (by omega) h2 (by omega) (by omega)

theorem and127 (s : Int) (h0 : 0 ≤ s) (h1 : s < 256) : bits .and .u8 s 127 = s % 128 := by
  rw [u8_and s 127 h0 h1 (by decide) (by decide)]
  have e : ((127 : Int).toNat : Nat) = 127 := by decide
  rw [e, nat_mask7]
  omega

set_option maxRecDepth 100000 in
set_option maxHeartbeats 800000 in
theorem parse_short (g n0 m cap : Nat) (t : Int) (w : World) (hn : n0 ≤ 1048576) (hm : m < 128) (hcap : n0 + 2 + m ≤ cap) (hcl : cap ≤ maxLen)
    (c0 : w.cell? ⟨g, n0, none⟩ = some (.int .u8 t)) (c1 : w.cell? ⟨g, n0 + 1, none⟩ = some (.int .u8 m)) :
    Calls Try.prog 14 #[.slice (some ⟨g, 0, none⟩) (n0 + 2 + m) cap, .int .i64 n0] w fun e w' => ∃ a cc, e = .returned (.tuple #[.int .u8 t, .slice a m cc, .bool true]) ∧ (0 < m → a = some ⟨g, n0 + 2, none⟩) ∧ Below w.heap.size w w' := by
  unfold maxLen at hcl
  have e1 : ((n0 : Int) + 1).toNat = n0 + 1 := by omega
  have e2 : ((n0 : Int) + 2).toNat = n0 + 2 := by omega
  have q1 : (0 : Int) ≤ (n0 : Int) + 1 := by omega
  have q2 : (n0 : Int) + 1 < (n0 : Int) + 2 + (m : Int) := by omega
  have q3 : (0 : Int) ≤ (n0 : Int) + 2 := by omega
  have q4 : (n0 : Int) + 2 ≤ (n0 : Int) + 2 + (m : Int) := by omega
  have q5 : (n0 : Int) + 2 + (m : Int) ≤ (cap : Int) := by omega
  have q6 : (m : Int) < 128 := by omega
  by_cases hpc : cap = n0 + 2
  · obtain rfl : m = 0 := by omega
    subst hpc
    go_enter Try.func14, Try.ntmps14
    go_wp2
    go_quiet (fail)
    go_wp2
    go_ret3
    exact ⟨_, _, rfl, fun h => absurd h (by omega), below_drewN (Below.refl _ _) _⟩
  · go_enter Try.func14, Try.ntmps14
    go_wp2
    go_quiet (fail)
    go_wp2
    go_ret3
    exact ⟨_, _, rfl, fun h => rfl, below_drewN (Below.refl _ _) _⟩

set_option maxRecDepth 100000 in
set_option maxHeartbeats 1600000 in
theorem parse_long1 (g n0 m cap : Nat) (t : Int) (w : World) (hn : n0 ≤ 1048576) (hm : 128 ≤ m) (hm2 : m ≤ 1048576) (hcap : n0 + 3 + m ≤ cap) (hcl : cap ≤ maxLen)
    (c0 : w.cell? ⟨g, n0, none⟩ = some (.int .u8 t)) (c1 : w.cell? ⟨g, n0 + 1, none⟩ = some (.int .u8 129)) (d0 : w.cell? ⟨g, n0 + 2, none⟩ = some (.int .u8 (m : Int))) (h0 : (m : Int) < 256) (hb : ((m : Int) == 0) = false) :
    Calls Try.prog 14 #[.slice (some ⟨g, 0, none⟩) (n0 + 3 + m) cap, .int .i64 n0] w fun e w' => ∃ a cc, e = .returned (.tuple #[.int .u8 t, .slice a m cc, .bool true]) ∧ (0 < m → a = some ⟨g, n0 + 3, none⟩) ∧ Below w.heap.size w w' := by
  unfold maxLen at hcl
  have ba : bits .and .u8 129 127 = 1 := by rw [and127 _ (by decide) (by decide)]; decide
  have o0 : bits .or .i64 0 (m : Int) = (m : Int) := by have := or8 0 (m : Int) (by omega) (by omega) (by omega) h0; simpa using this
  have m0 : (128 : Int) ≤ (m : Int) := by omega
  have e1 : ((n0 : Int) + 1).toNat = n0 + 1 := by omega
  have q1 : (0 : Int) ≤ (n0 : Int) + 1 := by omega
  have r1 : (n0 : Int) + 1 < (n0 : Int) + 3 + (m : Int) := by omega
  have e2 : ((n0 : Int) + 2).toNat = n0 + 2 := by omega
  have q2 : (0 : Int) ≤ (n0 : Int) + 2 := by omega
  have r2 : (n0 : Int) + 2 < (n0 : Int) + 3 + (m : Int) := by omega
  have e3 : ((n0 : Int) + 3).toNat = n0 + 3 := by omega
  have q3 : (0 : Int) ≤ (n0 : Int) + 3 := by omega
  have r3 : (n0 : Int) + 3 ≤ (n0 : Int) + 3 + (m : Int) := by omega
  have fp : ((n0 : Int) + 2 + 1).toNat = n0 + 3 := by omega
  have hpc : ¬ cap = n0 + 3 := by omega
  have qq : (n0 : Int) + 3 + (m : Int) ≤ (cap : Int) := by omega
  go_enter Try.func14, Try.ntmps14
  go_wp2_with fail
  refine wp_loop_rounds 2 ?_
  rw [rounds_succ]
  go_wp2_with fail
  rw [rounds_succ]
  go_wp2_with fail
  go_quiet (fail)
  go_wp2
  go_ret3
  exact ⟨_, _, rfl, fun h => rfl, below_drewN (Below.refl _ _) _⟩

set_option maxRecDepth 100000 in
set_option maxHeartbeats 1600000 in
theorem parse_long2 (g n0 m cap : Nat) (t b0 b1 : Int) (w : World) (hn : n0 ≤ 1048576) (hm : 128 ≤ m) (hm2 : m ≤ 1048576) (hcap : n0 + 4 + m ≤ cap) (hcl : cap ≤ maxLen)
    (c0 : w.cell? ⟨g, n0, none⟩ = some (.int .u8 t)) (c1 : w.cell? ⟨g, n0 + 1, none⟩ = some (.int .u8 130)) (d0 : w.cell? ⟨g, n0 + 2, none⟩ = some (.int .u8 b0)) (d1 : w.cell? ⟨g, n0 + 3, none⟩ = some (.int .u8 b1)) (l0 : 0 ≤ b0) (h0 : b0 < 256) (l1 : 0 ≤ b1) (h1 : b1 < 256) (hb : (b0 == 0) = false) (hv : b0 * 256 + b1 = (m : Int)) :
    Calls Try.prog 14 #[.slice (some ⟨g, 0, none⟩) (n0 + 4 + m) cap, .int .i64 n0] w fun e w' => ∃ a cc, e = .returned (.tuple #[.int .u8 t, .slice a m cc, .bool true]) ∧ (0 < m → a = some ⟨g, n0 + 4, none⟩) ∧ Below w.heap.size w w' := by
  unfold maxLen at hcl
  have ba : bits .and .u8 130 127 = 2 := by rw [and127 _ (by decide) (by decide)]; decide
  have o0 : bits .or .i64 0 b0 = b0 := by have := or8 0 b0 (by omega) (by omega) l0 h0; simpa using this
  have o1 : bits .or .i64 (b0 * 256) b1 = b0 * 256 + b1 := or8 (b0) b1 (by omega) (by omega) l1 h1
  have HV : Hid (b0 * 256 + b1 = (m : Int)) := hv
  have m0 : (128 : Int) ≤ (m : Int) := by omega
  have e1 : ((n0 : Int) + 1).toNat = n0 + 1 := by omega
  have q1 : (0 : Int) ≤ (n0 : Int) + 1 := by omega
  have r1 : (n0 : Int) + 1 < (n0 : Int) + 4 + (m : Int) := by omega
  have e2 : ((n0 : Int) + 2).toNat = n0 + 2 := by omega
  have q2 : (0 : Int) ≤ (n0 : Int) + 2 := by omega
  have r2 : (n0 : Int) + 2 < (n0 : Int) + 4 + (m : Int) := by omega
  have e3 : ((n0 : Int) + 3).toNat = n0 + 3 := by omega
  have q3 : (0 : Int) ≤ (n0 : Int) + 3 := by omega
  have r3 : (n0 : Int) + 3 < (n0 : Int) + 4 + (m : Int) := by omega
  have e4 : ((n0 : Int) + 4).toNat = n0 + 4 := by omega
  have q4 : (0 : Int) ≤ (n0 : Int) + 4 := by omega
  have r4 : (n0 : Int) + 4 ≤ (n0 : Int) + 4 + (m : Int) := by omega
  have f1 : ((n0 : Int) + 2 + 1).toNat = n0 + 3 := by omega
  have u1 : (0 : Int) ≤ (n0 : Int) + 2 + 1 := by omega
  have v1 : (n0 : Int) + 2 + 1 < (n0 : Int) + 4 + (m : Int) := by omega
  have fp : ((n0 : Int) + 2 + 2).toNat = n0 + 4 := by omega
  have hpc : ¬ cap = n0 + 4 := by omega
  have qq : (n0 : Int) + 4 + (m : Int) ≤ (cap : Int) := by omega
  go_enter Try.func14, Try.ntmps14
  go_wp2_with fail
  refine wp_loop_rounds 3 ?_
  rw [rounds_succ]
  go_wp2_with fail
  rw [rounds_succ]
  go_wp2_with fail
  rw [rounds_succ]
  go_wp2_with fail
  go_quiet (fail)
  go_wp2
  go_ret3
  exact ⟨_, _, rfl, fun h => rfl, below_drewN (Below.refl _ _) _⟩

set_option maxRecDepth 100000 in
set_option maxHeartbeats 1600000 in
theorem parse_long3 (g n0 m cap : Nat) (t b0 b1 b2 : Int) (w : World) (hn : n0 ≤ 1048576) (hm : 128 ≤ m) (hm2 : m ≤ 1048576) (hcap : n0 + 5 + m ≤ cap) (hcl : cap ≤ maxLen)
    (c0 : w.cell? ⟨g, n0, none⟩ = some (.int .u8 t)) (c1 : w.cell? ⟨g, n0 + 1, none⟩ = some (.int .u8 131)) (d0 : w.cell? ⟨g, n0 + 2, none⟩ = some (.int .u8 b0)) (d1 : w.cell? ⟨g, n0 + 3, none⟩ = some (.int .u8 b1)) (d2 : w.cell? ⟨g, n0 + 4, none⟩ = some (.int .u8 b2)) (l0 : 0 ≤ b0) (h0 : b0 < 256) (l1 : 0 ≤ b1) (h1 : b1 < 256) (l2 : 0 ≤ b2) (h2 : b2 < 256) (hb : (b0 == 0) = false) (hv : (b0 * 256 + b1) * 256 + b2 = (m : Int)) :
    Calls Try.prog 14 #[.slice (some ⟨g, 0, none⟩) (n0 + 5 + m) cap, .int .i64 n0] w fun e w' => ∃ a cc, e = .returned (.tuple #[.int .u8 t, .slice a m cc, .bool true]) ∧ (0 < m → a = some ⟨g, n0 + 5, none⟩) ∧ Below w.heap.size w w' := by
  unfold maxLen at hcl
  have ba : bits .and .u8 131 127 = 3 := by rw [and127 _ (by decide) (by decide)]; decide
  have o0 : bits .or .i64 0 b0 = b0 := by have := or8 0 b0 (by omega) (by omega) l0 h0; simpa using this
  have o1 : bits .or .i64 (b0 * 256) b1 = b0 * 256 + b1 := or8 (b0) b1 (by omega) (by omega) l1 h1
  have o2 : bits .or .i64 ((b0 * 256 + b1) * 256) b2 = (b0 * 256 + b1) * 256 + b2 := or8 (b0 * 256 + b1) b2 (by omega) (by omega) l2 h2
  have HV : Hid ((b0 * 256 + b1) * 256 + b2 = (m : Int)) := hv
  have m0 : (128 : Int) ≤ (m : Int) := by omega
  have e1 : ((n0 : Int) + 1).toNat = n0 + 1 := by omega
  have q1 : (0 : Int) ≤ (n0 : Int) + 1 := by omega
  have r1 : (n0 : Int) + 1 < (n0 : Int) + 5 + (m : Int) := by omega
  have e2 : ((n0 : Int) + 2).toNat = n0 + 2 := by omega
  have q2 : (0 : Int) ≤ (n0 : Int) + 2 := by omega
  have r2 : (n0 : Int) + 2 < (n0 : Int) + 5 + (m : Int) := by omega
  have e3 : ((n0 : Int) + 3).toNat = n0 + 3 := by omega
  have q3 : (0 : Int) ≤ (n0 : Int) + 3 := by omega
  have r3 : (n0 : Int) + 3 < (n0 : Int) + 5 + (m : Int) := by omega
  have e4 : ((n0 : Int) + 4).toNat = n0 + 4 := by omega
  have q4 : (0 : Int) ≤ (n0 : Int) + 4 := by omega
  have r4 : (n0 : Int) + 4 < (n0 : Int) + 5 + (m : Int) := by omega
  have e5 : ((n0 : Int) + 5).toNat = n0 + 5 := by omega
  have q5 : (0 : Int) ≤ (n0 : Int) + 5 := by omega
  have r5 : (n0 : Int) + 5 ≤ (n0 : Int) + 5 + (m : Int) := by omega
  have f1 : ((n0 : Int) + 2 + 1).toNat = n0 + 3 := by omega
  have u1 : (0 : Int) ≤ (n0 : Int) + 2 + 1 := by omega
  have v1 : (n0 : Int) + 2 + 1 < (n0 : Int) + 5 + (m : Int) := by omega
  have f2 : ((n0 : Int) + 2 + 2).toNat = n0 + 4 := by omega
  have u2 : (0 : Int) ≤ (n0 : Int) + 2 + 2 := by omega
  have v2 : (n0 : Int) + 2 + 2 < (n0 : Int) + 5 + (m : Int) := by omega
  have fp : ((n0 : Int) + 2 + 3).toNat = n0 + 5 := by omega
  have hpc : ¬ cap = n0 + 5 := by omega
  have qq : (n0 : Int) + 5 + (m : Int) ≤ (cap : Int) := by omega
  go_enter Try.func14, Try.ntmps14
  go_wp2_with fail
  refine wp_loop_rounds 4 ?_
  rw [rounds_succ]
  go_wp2_with fail
  rw [rounds_succ]
  go_wp2_with fail
  rw [rounds_succ]
  go_wp2_with fail
  rw [rounds_succ]
  go_wp2_with fail
  go_quiet (fail)
  go_wp2
  go_ret3
  exact ⟨_, _, rfl, fun h => rfl, below_drewN (Below.refl _ _) _⟩
end Go.Proofs.Qxb6001291a
