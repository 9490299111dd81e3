/-
  appendUint: what holds at the head of its loop, and what a round does to it (no walk here).
-/
import Derived.Test.Qxb6001291aIntWalk
namespace Go.Proofs.Qxb6001291a
open Go.RowKit
set_option linter.unusedVariables false

/-- The array of nine bytes: 7 - p of them have been laid, from the end; u is what is left of v. -/
def CU (w0 wr : World) (p : Nat) (v u : Int) : Prop :=
  u = v / 2 ^ (8 * (7 - p)) ∧ (p < 7 → u ≠ 0) ∧ ∃ cl : List Int, cl.length = 9 ∧ (∀ j, j < 7 - p → cl.getD (8 - j) 0 = v / 2 ^ (8 * j) % 256) ∧ (∀ i, i ≤ p + 1 → cl.getD i 0 = 0) ∧
    wr.ownsRow w0.heap.size 40 1 (.slice (some ⟨w0.heap.size, 0, none⟩) 9 9) 9 (cl.map (Value.int .u8)) ∧ Below w0.heap.size w0 wr

theorem cu_start (w : World) (v : Int) : CU w (w.alloc (.cells #[.int .u8 0, .int .u8 0, .int .u8 0, .int .u8 0, .int .u8 0, .int .u8 0, .int .u8 0, .int .u8 0, .int .u8 0] 40)) 7 v v := by
  refine ⟨by simp, fun h => by omega, [0, 0, 0, 0, 0, 0, 0, 0, 0], rfl, fun j hj => by omega, ?_, World.ownsRow_lit w _ 9 (Nat.le_refl _) (by decide) rfl, (Below.refl _ _).alloc (Nat.le_refl _) _⟩
  intro i hi
  rcases (show i = 0 ∨ i = 1 ∨ i = 2 ∨ i = 3 ∨ i = 4 ∨ i = 5 ∨ i = 6 ∨ i = 7 ∨ i = 8 by omega) with rfl | rfl | rfl | rfl | rfl | rfl | rfl | rfl | rfl <;> rfl

theorem cu_cell {w0 wr : World} {p : Nat} {v u : Int} (h : CU w0 wr p v u) (i : Nat) (hi : i < 9) : (∃ x, wr.cell? ⟨w0.heap.size, i, none⟩ = some (.int .u8 x)) ∧ wr.frozen? ⟨w0.heap.size, i, none⟩ = false := by
  obtain ⟨_, _, cl, h1, h2, h3, h4, h5⟩ := h
  exact ⟨⟨_, owns_cell h4 i hi⟩, h4.frozenAt i⟩

/-- What lies in the array behind the store of one more byte. -/
theorem cu_put {w0 wr : World} {p : Nat} {v u : Int} (hp : p ≤ 7) (h : CU w0 wr p v u) :
    ∃ cl : List Int, cl.length = 9 ∧ (∀ j, j < 8 - p → cl.getD (8 - j) 0 = v / 2 ^ (8 * j) % 256) ∧ (∀ i, i ≤ p → cl.getD i 0 = 0) ∧
      (wr.setCell ⟨w0.heap.size, p + 1, none⟩ (.int .u8 (u % 256))).ownsRow w0.heap.size 40 1 (.slice (some ⟨w0.heap.size, 0, none⟩) 9 9) 9 (cl.map (Value.int .u8)) ∧ Below w0.heap.size w0 (wr.setCell ⟨w0.heap.size, p + 1, none⟩ (.int .u8 (u % 256))) := by
  obtain ⟨hu, _, cl, h1, h2, h3, h4, h5⟩ := h
  refine ⟨cl.set (p + 1) (u % 256), by simpa using h1, ?_, ?_, ?_, h5.setCell (Nat.le_refl _) _⟩
  · intro j hj
    rw [getD_set]
    by_cases e : p + 1 = 8 - j
    · rw [if_pos ⟨e, by omega⟩, hu, show 7 - p = j by omega]
    · rw [if_neg (fun h => e h.1)]
      exact h2 j (by omega)
  · intro i hi
    rw [getD_set, if_neg (fun h => by omega)]
    exact h3 i (by omega)
  · have := (h4.stored (p + 1) (.int .u8 (u % 256))).1
    rw [← List.map_set] at this
    exact this

theorem cu_next (p : Nat) (v : Int) (hp : p ≤ 7) : v / 2 ^ (8 * (7 - p)) / 256 = v / 2 ^ (8 * (8 - p)) := by
  rw [show 8 - p = (7 - p) + 1 by omega, pow_succ8, ← Int.ediv_ediv_of_nonneg (Int.le_of_lt (pow_pos8 _))]

theorem cu_more {v : Int} (hv0 : 0 ≤ v) (hv : v < 18446744073709551616) : v / 2 ^ (8 * 7) / 256 = 0 := by
  have e : (2 : Int) ^ (8 * 7) = 72057594037927936 := by decide
  rw [e]
  omega

/-- A byte is laid, more are to come. -/
theorem cu_step {w0 wr : World} {p : Nat} {v u : Int} (hp : p ≤ 7) (h : CU w0 wr p v u) (hv0 : 0 ≤ v) (hv : v < 18446744073709551616) (hn : u / 256 ≠ 0) :
    ∃ q, p = q + 1 ∧ CU w0 (wr.setCell ⟨w0.heap.size, p + 1, none⟩ (.int .u8 (u % 256))) q v (u / 256) := by
  have hu := h.1
  have hp1 : p ≠ 0 := by
    intro e
    subst e
    rw [hu] at hn
    exact hn (cu_more hv0 hv)
  obtain ⟨q, rfl⟩ : ∃ q, p = q + 1 := ⟨p - 1, by omega⟩
  obtain ⟨cl, c1, c2, c3, c4, c5⟩ := cu_put hp h
  refine ⟨q, rfl, ?_, fun _ => hn, cl, c1, fun j hj => c2 j (by omega), c3, c4, c5⟩
  rw [hu, cu_next (q + 1) v hp, show 8 - (q + 1) = 7 - q by omega]

/-- The last byte is laid: what the two tails of the array read as. -/
theorem cu_end {w0 wr : World} {p : Nat} {v u : Int} (hp : p ≤ 7) (h : CU w0 wr p v u) (hn : u / 256 = 0) :
    Rd .u8 (wr.setCell ⟨w0.heap.size, p + 1, none⟩ (.int .u8 (u % 256))) (some ⟨w0.heap.size, p + 1, none⟩) (9 - (p + 1)) (be (9 - (p + 1)) v) ∧
    Rd .u8 (wr.setCell ⟨w0.heap.size, p + 1, none⟩ (.int .u8 (u % 256))) (some ⟨w0.heap.size, p, none⟩) (9 - p) (be (9 - p) v) ∧
    Below w0.heap.size w0 (wr.setCell ⟨w0.heap.size, p + 1, none⟩ (.int .u8 (u % 256))) := by
  obtain ⟨cl, c1, c2, c3, c4, c5⟩ := cu_put hp h
  have hu := h.1
  have hz : v / 2 ^ (8 * (8 - p)) = 0 := by rw [← cu_next p v hp, ← hu]; exact hn
  refine ⟨⟨be_length _ _, Or.inr ⟨w0.heap.size, p + 1, rfl, fun j hj => ?_⟩⟩, ⟨be_length _ _, Or.inr ⟨w0.heap.size, p, rfl, fun j hj => ?_⟩⟩, c5⟩
  · rw [owns_cell c4 (p + 1 + j) (by omega), be_getD _ _ j hj, show p + 1 + j = 8 - (7 - p - j) by omega, c2 (7 - p - j) (by omega), show 9 - (p + 1) - 1 - j = 7 - p - j by omega]
  · rw [owns_cell c4 (p + j) (by omega), be_getD _ _ j hj]
    by_cases e : j = 0
    · subst e
      rw [Nat.add_zero, c3 p (Nat.le_refl _), show 9 - p - 1 - 0 = 8 - p by omega, hz]
      rfl
    · rw [show p + j = 8 - (8 - p - j) by omega, c2 (8 - p - j) (by omega), show 9 - p - 1 - j = 8 - p - j by omega]

theorem pow7 (j : Nat) : (2 : Int) ^ (8 * (j + 1) - 1) = 2 ^ (8 * j) * 128 := by
  rw [show 8 * (j + 1) - 1 = 8 * j + 7 by omega, Int.pow_add]; rfl

/-- The top bit is clear: no byte more. -/
theorem fit_low {w0 wr : World} {p : Nat} {v u : Int} (hp : p ≤ 7) (h : CU w0 wr p v u) (hv0 : 0 ≤ v) (hb : u / 128 = 0) : Fit v (9 - (p + 1)) := by
  have hu := h.1
  have hne := h.2.1
  refine ⟨by omega, Or.inl ?_, ?_⟩
  · rw [show 9 - (p + 1) = (7 - p) + 1 by omega, pow7, ← Int.ediv_ediv_of_nonneg (Int.le_of_lt (pow_pos8 _)), ← hu]
    exact hb
  · by_cases e : p = 7
    · left; omega
    · right
      have hq := hne (by omega)
      rw [hu, show 7 - p = (6 - p) + 1 by omega, pow_succ8, ← Int.ediv_ediv_of_nonneg (Int.le_of_lt (pow_pos8 _))] at hq
      rw [show 9 - (p + 1) - 1 = (6 - p) + 1 by omega, pow7, ← Int.ediv_ediv_of_nonneg (Int.le_of_lt (pow_pos8 _))]
      have h0 : 0 ≤ v / 2 ^ (8 * (6 - p)) := Int.ediv_nonneg hv0 (Int.le_of_lt (pow_pos8 _))
      generalize v / 2 ^ (8 * (6 - p)) = y at *
      omega

/-- The top bit is set: one zero byte more. -/
theorem fit_high {w0 wr : World} {p : Nat} {v u : Int} (hp : p ≤ 7) (h : CU w0 wr p v u) (hn : u / 256 = 0) (hb : u / 128 = 1) : Fit v (9 - p) := by
  have hu := h.1
  have hz : v / 2 ^ (8 * (8 - p)) = 0 := by rw [← cu_next p v hp, ← hu]; exact hn
  refine ⟨by omega, Or.inl ?_, Or.inr ?_⟩
  · rw [show 9 - p = (8 - p) + 1 by omega, pow7, ← Int.ediv_ediv_of_nonneg (Int.le_of_lt (pow_pos8 _)), hz]
    rfl
  · rw [show 9 - p - 1 = (7 - p) + 1 by omega, pow7, ← Int.ediv_ediv_of_nonneg (Int.le_of_lt (pow_pos8 _)), ← hu, hb]
    decide
end Go.Proofs.Qxb6001291a
