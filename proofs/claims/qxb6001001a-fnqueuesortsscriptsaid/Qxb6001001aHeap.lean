/-
  PLAIN MATHEMATICS OF THE BINARY HEAP (no Go in sight): a list of integers, ordered by a test 'A a b' ('a comes strictly later than b').
  'PInv' is what holds in the round of push (a hole that goes up), 'DInv' what holds in the round of pop (a hole that goes down).
-/
namespace Go.Proofs.Qxb6001001a.Heap

theorem getD_set (l : List Int) (i j : Nat) (v : Int) : (l.set i v).getD j 0 = if i = j ∧ j < l.length then v else l.getD j 0 := by
  rw [List.getD_eq_getElem?_getD, List.getD_eq_getElem?_getD, List.getElem?_set]
  by_cases h : i = j
  · subst h
    by_cases h2 : i < l.length
    · simp [h2]
    · simp [h2]
  · simp [h]

theorem getD_same (l : List Int) (i : Nat) (v : Int) (h : i < l.length) : (l.set i v).getD i 0 = v := by
  rw [getD_set, if_pos ⟨rfl, h⟩]

theorem getD_other (l : List Int) (i j : Nat) (v : Int) (h : i ≠ j) : (l.set i v).getD j 0 = l.getD j 0 := by
  rw [getD_set, if_neg (fun e => h e.1)]

theorem getD_mem (l : List Int) (i : Nat) (h : i < l.length) : l.getD i 0 ∈ l := by
  rw [List.getD_eq_getElem?_getD, List.getElem?_eq_getElem h]
  exact List.getElem_mem h

/-- The test is a strict order whose 'not later' is transitive. -/
structure Order (A : Int → Int → Bool) : Prop where
  tr : ∀ a b c, A a b = false → A b c = false → A a c = false
  asym : ∀ a b, A a b = true → A b a = false

def IsHeap (A : Int → Int → Bool) (q : List Int) : Prop :=
  ∀ j, 1 ≤ j → j < q.length → A (q.getD ((j - 1) / 2) 0) (q.getD j 0) = false

theorem heap_min {A : Int → Int → Bool} (hA : Order A) {q : List Int} (h : IsHeap A q) : ∀ j, 1 ≤ j → j < q.length → A (q.getD 0 0) (q.getD j 0) = false := by
  intro j
  induction j using Nat.strongRecOn with
  | _ j ih =>
    intro h1 h2
    by_cases hp : (j - 1) / 2 = 0
    · have := h j h1 h2
      rw [hp] at this
      exact this
    · exact hA.tr _ _ _ (ih ((j - 1) / 2) (by omega) (by omega) (by omega)) (h j h1 h2)

theorem irr {A : Int → Int → Bool} (hA : Order A) (a : Int) : A a a = false := by
  cases h : A a a with
  | false => rfl
  | true => have := hA.asym a a h; simp [h] at this

theorem heap_min_all {A : Int → Int → Bool} (hA : Order A) {q : List Int} (h : IsHeap A q) : ∀ x ∈ q, A (q.getD 0 0) x = false := by
  intro x hx
  obtain ⟨j, hj, rfl⟩ := List.getElem_of_mem hx
  have e : q[j] = q.getD j 0 := by rw [List.getD_eq_getElem?_getD, List.getElem?_eq_getElem hj]; rfl
  rw [e]
  by_cases h0 : j = 0
  · subst h0; exact irr hA _
  · exact heap_min hA h j (by omega) hj

/-! ### push: the hole goes up -/

/-- 'h' with d laid into the hole i: a heap but for the pair (parent of i, i); what hangs under i comes no sooner than i's parent. -/
def PInv (A : Int → Int → Bool) (g : List Int) (i : Nat) : Prop :=
  (∀ j, 1 ≤ j → j < g.length → j ≠ i → A (g.getD ((j - 1) / 2) 0) (g.getD j 0) = false) ∧
  (∀ j, 1 ≤ j → j < g.length → (j - 1) / 2 = i → 1 ≤ i → A (g.getD ((i - 1) / 2) 0) (g.getD j 0) = false)

theorem getD_snoc_lt (q : List Int) (d : Int) (j : Nat) (h : j < q.length) : (q ++ [d]).getD j 0 = q.getD j 0 := by
  rw [List.getD_eq_getElem?_getD, List.getD_eq_getElem?_getD, List.getElem?_append_left h]

theorem getD_snoc_eq (q : List Int) (d : Int) : (q ++ [d]).getD q.length 0 = d := by
  rw [List.getD_eq_getElem?_getD, List.getElem?_append_right (Nat.le_refl _)]
  simp

theorem pinv_start {A : Int → Int → Bool} {q : List Int} {d : Int} (h : IsHeap A q) : PInv A (q ++ [d]) q.length := by
  constructor
  · intro j h1 h2 h3
    simp at h2
    rw [getD_snoc_lt q d j (by omega), getD_snoc_lt q d _ (by omega)]
    exact h j h1 (by omega)
  · intro j h1 h2 h3
    simp at h2
    omega

theorem snoc_set (q : List Int) (d : Int) : (q ++ [d]).set q.length d = q ++ [d] := by
  simp

/-- The round: the parent comes later than d: it goes down into the hole, the hole goes up. -/
theorem pinv_step {A : Int → Int → Bool} (hA : Order A) {h : List Int} {i : Nat} {d : Int} (hi : i < h.length) (h0 : 1 ≤ i) (hI : PInv A (h.set i d) i)
    (ht : A (h.getD ((i - 1) / 2) 0) d = true) :
    PInv A ((h.set i (h.getD ((i - 1) / 2) 0)).set ((i - 1) / 2) d) ((i - 1) / 2) := by
  obtain ⟨p, hp⟩ : ∃ p, p = (i - 1) / 2 := ⟨_, rfl⟩
  rw [← hp] at ht ⊢
  have hpi : p < i := by omega
  have hle := hA.asym _ _ ht
  obtain ⟨I1, I2⟩ := hI
  simp only [List.length_set] at I1 I2
  -- reading the old and the new list
  have old : ∀ j, j ≠ i → (h.set i d).getD j 0 = h.getD j 0 := fun j hj => getD_other h i j d (Ne.symm hj)
  have oldi : (h.set i d).getD i 0 = d := getD_same h i d hi
  have new : ∀ j, j ≠ i → j ≠ p → ((h.set i (h.getD p 0)).set p d).getD j 0 = h.getD j 0 := fun j h1 h2 => by
    rw [getD_other _ _ _ _ (Ne.symm h2), getD_other _ _ _ _ (Ne.symm h1)]
  have newp : ((h.set i (h.getD p 0)).set p d).getD p 0 = d := getD_same _ p d (by simp; omega)
  have newi : ((h.set i (h.getD p 0)).set p d).getD i 0 = h.getD p 0 := by
    rw [getD_other _ _ _ _ (by omega), getD_same h i _ hi]
  constructor
  · intro j h1 h2 h3
    simp only [List.length_set] at h2
    by_cases e1 : j = i
    · subst e1
      rw [← hp, newp, newi]
      exact hle
    · rw [new j e1 h3]
      by_cases e2 : (j - 1) / 2 = i
      · rw [e2, newi]
        have := I2 j h1 h2 e2 h0
        rw [← hp, old p (by omega), old j e1] at this
        exact this
      · by_cases e3 : (j - 1) / 2 = p
        · rw [e3, newp]
          have := I1 j h1 h2 e1
          rw [e3, old p (by omega), old j e1] at this
          exact hA.tr _ _ _ hle this
        · rw [new _ e2 e3]
          have := I1 j h1 h2 e1
          rw [old _ e2, old j e1] at this
          exact this
  · intro j h1 h2 h3 h4
    simp only [List.length_set] at h2
    have hpp := I1 p h4 (by omega) (by omega)
    rw [old p (by omega), old _ (by omega)] at hpp
    rw [new ((p - 1) / 2) (by omega) (by omega)]
    by_cases e1 : j = i
    · subst e1
      rw [newi]
      exact hpp
    · rw [new j e1 (by omega)]
      have := I1 j h1 h2 e1
      rw [h3, old p (by omega), old j e1] at this
      exact hA.tr _ _ _ hpp this

theorem pinv_top {A : Int → Int → Bool} {g : List Int} (h : PInv A g 0) : IsHeap A g :=
  fun j h1 h2 => h.1 j h1 h2 (by omega)

theorem pinv_stop {A : Int → Int → Bool} {h : List Int} {i : Nat} {d : Int} (hi : i < h.length) (h0 : 1 ≤ i) (hI : PInv A (h.set i d) i)
    (ht : A (h.getD ((i - 1) / 2) 0) d = false) : IsHeap A (h.set i d) := by
  intro j h1 h2
  by_cases e : j = i
  · subst e
    rw [getD_other h j _ d (by omega), getD_same h j d hi]
    exact ht
  · exact hI.1 j h1 h2 e

/-! ### pop: the hole goes down -/

/-- 'g' with the last one laid into the hole i: a heap but for the pairs (i, its children); what hangs under i comes no sooner than i's parent. -/
def DInv (A : Int → Int → Bool) (g : List Int) (i : Nat) : Prop :=
  (∀ j, 1 ≤ j → j < g.length → (j - 1) / 2 ≠ i → A (g.getD ((j - 1) / 2) 0) (g.getD j 0) = false) ∧
  (∀ j, 1 ≤ j → j < g.length → (j - 1) / 2 = i → 1 ≤ i → A (g.getD ((i - 1) / 2) 0) (g.getD j 0) = false)

theorem getD_take (q : List Int) (m j : Nat) (h : j < m) : (q.take m).getD j 0 = q.getD j 0 := by
  rw [List.getD_eq_getElem?_getD, List.getD_eq_getElem?_getD, List.getElem?_take, if_pos h]

theorem dinv_start {A : Int → Int → Bool} {q : List Int} {m : Nat} {d : Int} (h : IsHeap A q) (hm : m ≤ q.length) : DInv A ((q.take m).set 0 d) 0 := by
  constructor
  · intro j h1 h2 h3
    simp at h2
    rw [getD_other _ _ _ _ (by omega), getD_other _ _ _ _ (by omega), getD_take q m j (by omega), getD_take q m _ (by omega)]
    exact h j h1 (by omega)
  · intro j h1 h2 h3 h4
    omega

/-- The round: 'c' is the child that comes no later than the other; 'd' comes later than it. -/
theorem dinv_step {A : Int → Int → Bool} (hA : Order A) {h : List Int} {i c : Nat} {d : Int} (hc : c < h.length) (hci : (c - 1) / 2 = i) (hc1 : 1 ≤ c) (hI : DInv A (h.set i d) i)
    (ho : ∀ j, 1 ≤ j → j < h.length → (j - 1) / 2 = i → A (h.getD c 0) (h.getD j 0) = false) (ht : A d (h.getD c 0) = true) :
    DInv A ((h.set i (h.getD c 0)).set c d) c := by
  have hic : i < c := by omega
  have hle := hA.asym _ _ ht
  obtain ⟨I1, I2⟩ := hI
  simp only [List.length_set] at I1 I2
  have old : ∀ j, j ≠ i → (h.set i d).getD j 0 = h.getD j 0 := fun j hj => getD_other h i j d (Ne.symm hj)
  have new : ∀ j, j ≠ i → j ≠ c → ((h.set i (h.getD c 0)).set c d).getD j 0 = h.getD j 0 := fun j h1 h2 => by
    rw [getD_other _ _ _ _ (Ne.symm h2), getD_other _ _ _ _ (Ne.symm h1)]
  have newc : ((h.set i (h.getD c 0)).set c d).getD c 0 = d := getD_same _ c d (by simp; omega)
  have newi : ((h.set i (h.getD c 0)).set c d).getD i 0 = h.getD c 0 := by
    rw [getD_other _ _ _ _ (by omega), getD_same h i _ (by omega)]
  constructor
  · intro j h1 h2 h3
    simp only [List.length_set] at h2
    by_cases e1 : (j - 1) / 2 = i
    · rw [e1, newi]
      by_cases e2 : j = c
      · subst e2
        rw [newc]
        exact hle
      · rw [new j (by omega) e2]
        exact ho j h1 h2 e1
    · by_cases e2 : j = i
      · subst e2
        rw [newi, new _ (by omega) (by omega)]
        have := I2 c hc1 hc hci h1
        rw [old _ (by omega), old c (by omega)] at this
        exact this
      · have e3 : j ≠ c := fun e => e1 (by rw [e]; exact hci)
        rw [new j e2 e3, new _ e1 h3]
        have := I1 j h1 h2 e1
        rw [old j e2, old _ e1] at this
        exact this
  · intro j h1 h2 h3 h4
    simp only [List.length_set] at h2
    rw [hci, newi, new j (by omega) (by omega)]
    have := I1 j h1 h2 (by omega)
    rw [h3, old c (by omega), old j (by omega)] at this
    exact this

theorem dinv_leaf {A : Int → Int → Bool} {g : List Int} {i : Nat} (h : DInv A g i) (hl : g.length ≤ 2 * i + 1) : IsHeap A g :=
  fun j h1 h2 => h.1 j h1 h2 (by omega)

theorem dinv_stop {A : Int → Int → Bool} (hA : Order A) {h : List Int} {i c : Nat} {d : Int} (hi : i < h.length) (hI : DInv A (h.set i d) i)
    (ho : ∀ j, 1 ≤ j → j < h.length → (j - 1) / 2 = i → A (h.getD c 0) (h.getD j 0) = false) (ht : A d (h.getD c 0) = false) : IsHeap A (h.set i d) := by
  intro j h1 h2
  simp only [List.length_set] at h2
  by_cases e : (j - 1) / 2 = i
  · rw [e, getD_same h i d hi, getD_other h i j d (by omega)]
    exact hA.tr _ _ _ ht (ho j h1 h2 e)
  · exact hI.1 j h1 (by simpa using h2) e

/-! ### what the lists hold -/

/-- The round of either: the value at p goes to i, d to p. -/
theorem set_swap (h : List Int) (i p : Nat) (d : Int) (hi : i < h.length) (hp : p < h.length) (hne : i ≠ p) : ((h.set i (h.getD p 0)).set p d).Perm (h.set i d) := by
  have e : ∀ (l : List Int) (k : Nat) (v : Int) (hk : k < l.length), (l.set k v).Perm (v :: l.eraseIdx k) := by
    intro l
    induction l with
    | nil => intro k v hk; simp at hk
    | cons a t ih =>
      intro k v hk
      cases k with
      | zero => simp
      | succ k =>
        simp only [List.set_cons_succ, List.eraseIdx_cons_succ]
        exact ((ih k v (by simpa using hk)).cons a).trans (List.Perm.swap v a _)
  have e2 : ∀ (l : List Int) (k : Nat) (hk : k < l.length), l.Perm (l.getD k 0 :: l.eraseIdx k) := by
    intro l k hk
    have := e l k (l.getD k 0) hk
    have h3 : l.set k (l.getD k 0) = l := by
      apply List.ext_getElem (by simp)
      intro n h1 h2
      rw [List.getElem_set]
      split
      · rename_i h4
        subst h4
        rw [List.getD_eq_getElem?_getD, List.getElem?_eq_getElem h2]
        rfl
      · rfl
    rw [h3] at this
    exact this
  -- both are d, the value at p, and the rest
  have h1 := e (h.set i (h.getD p 0)) p d (by simpa using hp)
  have h2 := e2 (h.set i d) p (by simpa using hp)
  rw [getD_other h i p d hne] at h2
  have h4 := e2 (h.set i (h.getD p 0)) p (by simpa using hp)
  rw [getD_other h i p _ hne] at h4
  have h5 := e h i (h.getD p 0) hi
  have h6 := e h i d hi
  -- h4: set i x ~ x :: erase p ; h5: set i x ~ x :: erase i; so (set i x).erase p ~ h.erase i
  have h7 : (h.getD p 0 :: (h.set i (h.getD p 0)).eraseIdx p).Perm (h.getD p 0 :: h.eraseIdx i) := h4.symm.trans h5
  have h8 := List.Perm.cons_inv h7
  exact h1.trans ((h8.cons d).trans h6.symm)

end Go.Proofs.Qxb6001001a.Heap
