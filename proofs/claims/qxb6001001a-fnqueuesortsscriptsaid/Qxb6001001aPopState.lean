/-
  (*expiryQueue).pop: what holds at the head of its loop, and what each way of a round does to it (no walk here).
-/
import Derived.Test.Qxb6001001aFrame
import Derived.WalkSmall
namespace Go.Proofs.Qxb6001001a
open Go.RowKit
set_option linter.unusedVariables false

/-- What holds at the head of pop's loop: 'hs' lies in the row; with the last one laid into the hole i it is a heap but for i and its children. -/
def DS (B bx gA g n cap nA capA : Nat) (S N zs : List Int) (last : Int) (w wr : World) (i : Nat) (hs : List Int) : Prop :=
  hs.length = n ∧ wr.ownsRow B 23 1 (.slice (some ⟨g, 0, none⟩) n cap) n (hs.map (Value.int .u32)) ∧ Ati B wr (.slice (some ⟨gA, 0, none⟩) nA capA) nA S N ∧
  wr.heap[bx]? = some (.cells #[.slice (some ⟨g, 0, none⟩) n cap] 55 (0, 0)) ∧ Fr (fun k => k = bx ∨ k = g) w wr ∧
  Heap.DInv (lat S N) (hs.set i last) i ∧ (zs.getD 0 0 :: hs.set i last).Perm zs ∧ (∀ z ∈ hs, 0 ≤ z ∧ z < (nA : Int))

theorem ds_below {B bx gA g n cap nA capA : Nat} {S N zs hs : List Int} {last : Int} {w wr W : World} {i : Nat} (h : DS B bx gA g n cap nA capA S N zs last w wr i hs) (hb : Below wr.heap.size wr W) :
    DS B bx gA g n cap nA capA S N zs last w W i hs := by
  obtain ⟨h1, h2, h3, h4, h5, h6⟩ := h
  exact ⟨h1, owns_below h2 hb, h3.below hb, (hb.block bx (lt_of_block h4)).trans h4, h5.trans (Fr.ofBelow hb), h6⟩

theorem snoc_getD (zs : List Int) (n : Nat) (h : zs.length = n + 1) : zs = zs.take n ++ [zs.getD n 0] := by
  have e := take_snoc zs n (by omega)
  rw [List.take_of_length_le (by omega)] at e
  exact e

/-- The queue shortened by its last one, in the box and in the row. -/
theorem pop_short {B bx gA g n cap nA capA : Nat} {S N zs : List Int} {w : World}
    (hbx : w.heap[bx]? = some (.cells #[.slice (some ⟨g, 0, none⟩) (n + 1) cap] 55 (0, 0))) (hown : w.ownsRow B 23 1 (.slice (some ⟨g, 0, none⟩) (n + 1) cap) (n + 1) (zs.map (Value.int .u32)))
    (hat : Ati B w (.slice (some ⟨gA, 0, none⟩) nA capA) nA S N) (hne1 : g ≠ bx) (hne2 : gA ≠ bx) :
    (w.setCell ⟨bx, 0, none⟩ (.slice (some ⟨g, 0, none⟩) n cap)).ownsRow B 23 1 (.slice (some ⟨g, 0, none⟩) n cap) n ((zs.take n).map (Value.int .u32)) ∧
    Ati B (w.setCell ⟨bx, 0, none⟩ (.slice (some ⟨g, 0, none⟩) n cap)) (.slice (some ⟨gA, 0, none⟩) nA capA) nA S N ∧
    (w.setCell ⟨bx, 0, none⟩ (.slice (some ⟨g, 0, none⟩) n cap)).heap[bx]? = some (.cells #[.slice (some ⟨g, 0, none⟩) n cap] 55 (0, 0)) ∧
    Fr (fun k => k = bx ∨ k = g) w (w.setCell ⟨bx, 0, none⟩ (.slice (some ⟨g, 0, none⟩) n cap)) := by
  have hl : zs.length = n + 1 := by have := hown.1; simpa using this
  have F1 : Fr (fun k => k = bx ∨ k = g) w (w.setCell ⟨bx, 0, none⟩ (.slice (some ⟨g, 0, none⟩) n cap)) := (Fr.refl _ w).setCell (p := ⟨bx, 0, none⟩) (Or.inl (Or.inl rfl)) _
  have F2 : Fr (fun k => k = bx) w (w.setCell ⟨bx, 0, none⟩ (.slice (some ⟨g, 0, none⟩) n cap)) := (Fr.refl (fun k => k = bx) w).setCell (p := ⟨bx, 0, none⟩) (Or.inl rfl) _
  refine ⟨?_, hat.fr F2 (fun k hk => ?_), one_setCell hbx, F1⟩
  · refine ownsRow_setCell_other ?_ (by simpa [Value.ownBlock] using hne1) _
    have e : zs.map (Value.int .u32) = (zs.take n).map (Value.int .u32) ++ [Value.int .u32 (zs.getD n 0)] := by
      have := congrArg (List.map (Value.int .u32)) (snoc_getD zs n hl)
      simpa only [List.map_append, List.map_cons, List.map_nil] using this
    rw [e] at hown
    exact ownsRow_pop (by simp; omega) hown
  · simp only [Value.ownBlock, Option.some.injEq] at hk
    omega

theorem perm_first_last (zs : List Int) (m : Nat) (h : zs.length = m + 2) : (zs.getD 0 0 :: (zs.take (m + 1)).set 0 (zs.getD (m + 1) 0)).Perm zs := by
  match zs, h with
  | z :: rest, h =>
    have hr : rest.length = m + 1 := by simpa using h
    have e := snoc_getD rest m hr
    have e1 : (z :: rest).getD (m + 1) 0 = rest.getD m 0 := by simp [List.getD]
    have e2 : (z :: rest).getD 0 0 = z := by simp [List.getD]
    rw [e1, e2]
    simp only [List.take_succ_cons, List.set_cons_zero]
    refine List.Perm.cons z ?_
    have : (rest.getD m 0 :: rest.take m).Perm (rest.take m ++ [rest.getD m 0]) := by
      have := List.perm_append_comm (l₁ := [rest.getD m 0]) (l₂ := rest.take m)
      simpa using this
    rw [← e] at this
    exact this

/-- The state when the loop begins (n = m + 1 > 0 elements are left). -/
theorem ds_start {B bx gA g m cap nA capA : Nat} {S N zs : List Int} {w : World}
    (hbx : w.heap[bx]? = some (.cells #[.slice (some ⟨g, 0, none⟩) (m + 1 + 1) cap] 55 (0, 0))) (hown : w.ownsRow B 23 1 (.slice (some ⟨g, 0, none⟩) (m + 1 + 1) cap) (m + 1 + 1) (zs.map (Value.int .u32)))
    (hat : Ati B w (.slice (some ⟨gA, 0, none⟩) nA capA) nA S N) (hne1 : g ≠ bx) (hne2 : gA ≠ bx) (hz : ∀ z ∈ zs, 0 ≤ z ∧ z < (nA : Int)) (hheap : Heap.IsHeap (lat S N) zs) :
    DS B bx gA g (m + 1) cap nA capA S N zs (zs.getD (m + 1) 0) w (w.setCell ⟨bx, 0, none⟩ (.slice (some ⟨g, 0, none⟩) (m + 1) cap)) 0 (zs.take (m + 1)) := by
  have hl : zs.length = m + 1 + 1 := by have := hown.1; simpa using this
  obtain ⟨p1, p2, p3, p4⟩ := pop_short hbx hown hat hne1 hne2
  exact ⟨by simp; omega, p1, p2, p3, p4, Heap.dinv_start hheap (by omega), perm_first_last zs m hl, fun z hzz => hz z (List.mem_of_mem_take hzz)⟩

/-- The round: the child c comes up, the hole goes down. -/
theorem ds_step {B bx gA g n cap nA capA : Nat} {S N zs hs : List Int} {last zc : Int} {w W : World} {i c : Nat} (h : DS B bx gA g n cap nA capA S N zs last w W i hs)
    (hc : c < n) (hci : (c - 1) / 2 = i) (hc1 : 1 ≤ c) (hzc : hs.getD c 0 = zc) (ho : ∀ j, 1 ≤ j → j < n → (j - 1) / 2 = i → lat S N zc (hs.getD j 0) = false) (ht : lat S N last zc = true) (hgb : g ≠ bx) (hgA : g ≠ gA) :
    DS B bx gA g n cap nA capA S N zs last w (W.setCell ⟨g, i, none⟩ (.int .u32 zc)) c (hs.set i zc) := by
  obtain ⟨h1, h2, h3, h4, h5, h6, h7, h8⟩ := h
  subst hzc
  refine ⟨by simpa using h1, ?_, ?_, ?_, ?_, ?_, ?_, ?_⟩
  · have := (h2.stored i (.int .u32 (hs.getD c 0))).1
    rw [← List.map_set] at this
    exact this
  · refine h3.fr (X := fun k => k = g) ((Fr.refl (fun k => k = g) W).setCell (p := ⟨g, i, none⟩) (Or.inl rfl) _) (fun k hk => ?_)
    simp only [Value.ownBlock, Option.some.injEq] at hk
    omega
  · rw [Below.heap_setCell _ _ _ _ (Ne.symm hgb)]; exact h4
  · exact h5.setCell (p := ⟨g, i, none⟩) (Or.inl (Or.inr rfl)) _
  · exact Heap.dinv_step (lat_order S N) (by omega) hci hc1 h6 (by rw [h1]; exact ho) ht
  · have := Heap.set_swap hs i c last (by omega) (by omega) (by omega)
    exact (this.cons _).trans h7
  · intro z hz
    rcases List.mem_or_eq_of_mem_set hz with hz | hz
    · exact h8 z hz
    · subst hz; exact h8 _ (Heap.getD_mem _ _ (by omega))

/-- What pop leaves. -/
def Popped (B bx g n cap : Nat) (S N zs : List Int) (w W : World) : Prop :=
  ∃ out, W.heap[bx]? = some (.cells #[.slice (some ⟨g, 0, none⟩) n cap] 55 (0, 0)) ∧ W.ownsRow B 23 1 (.slice (some ⟨g, 0, none⟩) n cap) n (out.map (Value.int .u32)) ∧
    Heap.IsHeap (lat S N) out ∧ (zs.getD 0 0 :: out).Perm zs ∧ Fr (fun k => k = bx ∨ k = g) w W

theorem ds_end {B bx gA g n cap nA capA : Nat} {S N zs hs : List Int} {last : Int} {w wr W : World} {i : Nat} (h : DS B bx gA g n cap nA capA S N zs last w wr i hs)
    (hb : Below (wr.setCell ⟨g, i, none⟩ (.int .u32 last)).heap.size (wr.setCell ⟨g, i, none⟩ (.int .u32 last)) W)
    (hheap : Heap.IsHeap (lat S N) (hs.set i last)) (hgb : g ≠ bx) : Popped B bx g n cap S N zs w W := by
  obtain ⟨h1, h2, h3, h4, h5, h6, h7, h8⟩ := h
  have h4' : (wr.setCell ⟨g, i, none⟩ (.int .u32 last)).heap[bx]? = some (.cells #[.slice (some ⟨g, 0, none⟩) n cap] 55 (0, 0)) := by
    rw [Below.heap_setCell _ _ _ _ (Ne.symm hgb)]; exact h4
  refine ⟨hs.set i last, ?_, ?_, hheap, h7, ?_⟩
  · rw [hb.block bx (lt_of_block h4')]; exact h4'
  · have := (h2.stored i (.int .u32 last)).1
    rw [← List.map_set] at this
    exact owns_below this hb
  · exact (h5.setCell (p := ⟨g, i, none⟩) (Or.inl (Or.inr rfl)) _).trans (Fr.ofBelow hb)

/-- A queue of one: nothing is left. -/
theorem popped_one {B bx gA g cap nA capA : Nat} {S N zs : List Int} {w W : World}
    (hbx : w.heap[bx]? = some (.cells #[.slice (some ⟨g, 0, none⟩) (0 + 1) cap] 55 (0, 0))) (hown : w.ownsRow B 23 1 (.slice (some ⟨g, 0, none⟩) (0 + 1) cap) (0 + 1) (zs.map (Value.int .u32)))
    (hat : Ati B w (.slice (some ⟨gA, 0, none⟩) nA capA) nA S N) (hne1 : g ≠ bx) (hne2 : gA ≠ bx)
    (hb : Below (w.setCell ⟨bx, 0, none⟩ (.slice (some ⟨g, 0, none⟩) 0 cap)).heap.size (w.setCell ⟨bx, 0, none⟩ (.slice (some ⟨g, 0, none⟩) 0 cap)) W) : Popped B bx g 0 cap S N zs w W := by
  have hl : zs.length = 1 := by have := hown.1; simpa using this
  obtain ⟨p1, p2, p3, p4⟩ := pop_short hbx hown hat hne1 hne2
  refine ⟨[], (hb.block bx (lt_of_block p3)).trans p3, owns_below p1 hb, fun j h1 h2 => by simp at h2, ?_, p4.trans (Fr.ofBelow hb)⟩
  match zs, hl with
  | [z], _ => exact List.Perm.refl _

/-- Of the two children the one that comes no later than the other. -/
theorem kids_one {A : Int → Int → Bool} (hA : Heap.Order A) {hs : List Int} {n i : Nat} (h : n ≤ 2 * i + 2) : ∀ j, 1 ≤ j → j < n → (j - 1) / 2 = i → A (hs.getD (2 * i + 1) 0) (hs.getD j 0) = false := by
  intro j h1 h2 h3
  have : j = 2 * i + 1 := by omega
  subst this
  exact Heap.irr hA _

theorem kids_left {A : Int → Int → Bool} (hA : Heap.Order A) {hs : List Int} {n i : Nat} (h : A (hs.getD (2 * i + 1) 0) (hs.getD (2 * i + 2) 0) = false) : ∀ j, 1 ≤ j → j < n → (j - 1) / 2 = i → A (hs.getD (2 * i + 1) 0) (hs.getD j 0) = false := by
  intro j h1 h2 h3
  rcases (show j = 2 * i + 1 ∨ j = 2 * i + 2 by omega) with e | e
  · subst e; exact Heap.irr hA _
  · subst e; exact h

theorem kids_right {A : Int → Int → Bool} (hA : Heap.Order A) {hs : List Int} {n i : Nat} (h : A (hs.getD (2 * i + 1) 0) (hs.getD (2 * i + 2) 0) = true) : ∀ j, 1 ≤ j → j < n → (j - 1) / 2 = i → A (hs.getD (2 * i + 2) 0) (hs.getD j 0) = false := by
  intro j h1 h2 h3
  rcases (show j = 2 * i + 1 ∨ j = 2 * i + 2 by omega) with e | e
  · subst e; exact hA.asym _ _ h
  · subst e; exact Heap.irr hA _
end Go.Proofs.Qxb6001001a
