/-
  PLAIN MATHEMATICS: the s low bytes of an integer, most significant first; what a reader makes of them.
-/
namespace Go.Proofs.Qxb6001291a

/-- The s low bytes of v (two's complement), most significant first. -/
def be (s : Nat) (v : Int) : List Int := (List.range s).map fun j => v / 2 ^ (8 * (s - 1 - j)) % 256

theorem be_length (s : Nat) (v : Int) : (be s v).length = s := by simp [be]

theorem be_getD (s : Nat) (v : Int) (j : Nat) (h : j < s) : (be s v).getD j 0 = v / 2 ^ (8 * (s - 1 - j)) % 256 := by
  simp [be, List.getD, h]

theorem be_range (s : Nat) (v : Int) : ∀ z ∈ be s v, 0 ≤ z ∧ z < 256 := by
  intro z hz
  simp only [be, List.mem_map] at hz
  obtain ⟨j, _, rfl⟩ := hz
  omega

theorem pow_succ8 (j : Nat) : (2 : Int) ^ (8 * (j + 1)) = 2 ^ (8 * j) * 256 := by
  rw [show 8 * (j + 1) = 8 * j + 8 by omega, Int.pow_add]
  rfl

theorem pow_pos8 (j : Nat) : (0 : Int) < 2 ^ j := Int.pow_pos (by decide)

/-- One step of a reader: what stands above byte j, and byte j, are what stands above byte j - 1. -/
theorem read_step (v : Int) (j : Nat) : v / 2 ^ (8 * (j + 1)) * 256 + v / 2 ^ (8 * j) % 256 = v / 2 ^ (8 * j) := by
  rw [pow_succ8, ← Int.ediv_ediv_of_nonneg (Int.le_of_lt (pow_pos8 _))]
  omega

theorem half (s : Nat) (hs : 1 ≤ s) : (2 : Int) ^ (8 * s) = 2 ^ (8 * s - 1) * 2 := by
  rw [show 8 * s = (8 * s - 1) + 1 by omega, Int.pow_add]
  simp

/-- The integer fits s bytes, and no fewer. -/
def Fit (v : Int) (s : Nat) : Prop :=
  1 ≤ s ∧ (v / 2 ^ (8 * s - 1) = 0 ∨ v / 2 ^ (8 * s - 1) = -1) ∧ (s = 1 ∨ (v / 2 ^ (8 * (s - 1) - 1) ≠ 0 ∧ v / 2 ^ (8 * (s - 1) - 1) ≠ -1))

/-- What stands above the s bytes: the sign. -/
theorem fit_top {v : Int} {s : Nat} (h : Fit v s) : v / 2 ^ (8 * s) = if v < 0 then -1 else 0 := by
  obtain ⟨h1, h2, _⟩ := h
  have hp := pow_pos8 (8 * s - 1)
  rw [half s h1, ← Int.ediv_ediv_of_nonneg (Int.le_of_lt hp)]
  have hs : v < 0 ↔ v / 2 ^ (8 * s - 1) < 0 := ⟨fun h => Int.ediv_neg_of_neg_of_pos h hp, fun h => by
    rcases Int.lt_or_le v 0 with h0 | h0
    · exact h0
    · have := Int.ediv_nonneg h0 (Int.le_of_lt hp); omega⟩
  rcases h2 with h2 | h2
  · rw [h2] at hs ⊢
    rw [if_neg (by omega)]; decide
  · rw [h2] at hs ⊢
    rw [if_pos (by omega)]; decide

/-- The first byte's top bit is the sign. -/
theorem fit_first {v : Int} {s : Nat} (h : Fit v s) : (be s v).getD 0 0 / 128 = if v < 0 then 1 else 0 := by
  have h1 := h.1
  obtain ⟨p, rfl⟩ : ∃ p, s = p + 1 := ⟨s - 1, by omega⟩
  rw [be_getD _ _ 0 (by omega)]
  simp only [Nat.add_sub_cancel, Nat.sub_zero]
  have ht := fit_top h
  rw [pow_succ8, ← Int.ediv_ediv_of_nonneg (Int.le_of_lt (pow_pos8 _))] at ht
  obtain ⟨_, h2, _⟩ := h
  have e : (2 : Int) ^ (8 * (p + 1) - 1) = 2 ^ (8 * p) * 128 := by
    rw [show 8 * (p + 1) - 1 = 8 * p + 7 by omega, Int.pow_add]; rfl
  rw [e, ← Int.ediv_ediv_of_nonneg (Int.le_of_lt (pow_pos8 _))] at h2
  generalize v / 2 ^ (8 * p) = x at *
  split at ht <;> rename_i hv <;> simp only [hv, if_true, if_false] <;> omega

/-- No byte too many: the first nine bits are not all alike. -/
theorem fit_least {v : Int} {s : Nat} (h : Fit v s) (hs : 1 < s) : ¬ ((be s v).getD 0 0 = 0 ∧ (be s v).getD 1 0 / 128 = 0) ∧ ¬ ((be s v).getD 0 0 = 255 ∧ (be s v).getD 1 0 / 128 = 1) := by
  obtain ⟨p, rfl⟩ : ∃ p, s = p + 2 := ⟨s - 2, by omega⟩
  rw [be_getD _ _ 0 (by omega), be_getD _ _ 1 (by omega)]
  obtain ⟨_, h2, h3⟩ := h
  have h3 := h3.resolve_left (by omega)
  have e1 : p + 2 - 1 - 0 = p + 1 := by omega
  have e2 : p + 2 - 1 - 1 = p := by omega
  have e3 : p + 2 - 1 = p + 1 := by omega
  rw [e1, e2]
  rw [e3] at h3
  have f1 : (2 : Int) ^ (8 * (p + 2) - 1) = 2 ^ (8 * p) * 32768 := by
    rw [show 8 * (p + 2) - 1 = 8 * p + 15 by omega, Int.pow_add]; rfl
  have f2 : (2 : Int) ^ (8 * (p + 1) - 1) = 2 ^ (8 * p) * 128 := by
    rw [show 8 * (p + 1) - 1 = 8 * p + 7 by omega, Int.pow_add]; rfl
  rw [f1, ← Int.ediv_ediv_of_nonneg (Int.le_of_lt (pow_pos8 _))] at h2
  rw [f2, ← Int.ediv_ediv_of_nonneg (Int.le_of_lt (pow_pos8 _))] at h3
  rw [pow_succ8, ← Int.ediv_ediv_of_nonneg (Int.le_of_lt (pow_pos8 _))]
  generalize v / 2 ^ (8 * p) = x at *
  omega

end Go.Proofs.Qxb6001291a
