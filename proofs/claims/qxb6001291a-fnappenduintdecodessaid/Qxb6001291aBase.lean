/-
  THE SEAT's VOCABULARY: a slice of integers that can be read ('Rd'); one that the call owns ('World.ownsRow' of the library); how both stand behind new memory and behind a write to another row.
-/
import Derived.Test.Qxb6001291aRows
import Derived.WalkKit
import Derived.ProofKit
import Derived.Below
import Derived.WalkSpells
import Derived.WalkSmall
import Derived.OneCell
import Derived.Deep.AppendLies
import Derived.OpenShut
namespace Go.Proofs.Qxb6001291a
open Go.RowKit Go.ChangeShapes Go.WideShapes Go.ChangeAt
set_option linter.unusedVariables false

theorem ret_bool {a b : Bool} (h : a = b) : Ending.returned (.bool a) = .returned (.bool b) := by rw [h]

/-- A slice of n integers that can be read: they are zs. -/
def Rd (k : IntKind) (w : World) (a : Option Addr) (n : Nat) (zs : List Int) : Prop :=
  zs.length = n ∧ (n = 0 ∨ ∃ b off, a = some ⟨b, off, none⟩ ∧ ∀ j, j < n → w.cell? ⟨b, off + j, none⟩ = some (.int k (zs.getD j 0)))

theorem Rd.at {k : IntKind} {w : World} {a : Option Addr} {n : Nat} {zs : List Int} (h : Rd k w a n zs) (j : Nat) (hj : j < n) :
    ∃ b off, a = some ⟨b, off, none⟩ ∧ ∀ j, j < n → w.cell? ⟨b, off + j, none⟩ = some (.int k (zs.getD j 0)) := by
  rcases h.2 with h0 | h0
  · omega
  · exact h0

theorem Rd.below {k : IntKind} {w w' : World} {a : Option Addr} {n : Nat} {zs : List Int} (h : Rd k w a n zs) (hb : Below w.heap.size w w') : Rd k w' a n zs := by
  refine ⟨h.1, ?_⟩
  rcases h.2 with h0 | ⟨b, off, ha, hc⟩
  · exact Or.inl h0
  · exact Or.inr ⟨b, off, ha, fun j hj => cell_later hb (hc j hj)⟩

theorem Rd.belowAt {k : IntKind} {w0 w w' : World} {a : Option Addr} {n : Nat} {zs : List Int} (h : Rd k w0 a n zs) (hb : Below w0.heap.size w0 w) (hb2 : Below w0.heap.size w w') : Rd k w' a n zs :=
  h.below (hb.trans hb2)

/-- What is owned can be read. -/
theorem rd_of_owns {k : IntKind} {w : World} {B : Nat} {e : TypeId} {a : Option Addr} {n cap : Nat} {zs : List Int} (h : w.ownsRow B e 1 (.slice a n cap) n (zs.map (Value.int k))) : Rd k w a n zs := by
  have hl : zs.length = n := by have := h.1; simpa using this
  refine ⟨hl, ?_⟩
  rcases h.2 with ⟨h0, h1⟩ | ⟨g, cap', cur, hv, _⟩
  · exact Or.inl h1
  · simp only [Value.slice.injEq] at hv
    obtain ⟨rfl, _, rfl⟩ := hv
    refine Or.inr ⟨g, 0, rfl, fun j hj => ?_⟩
    rw [Nat.zero_add, h.cellAt j (by omega)]
    simp [List.getD, show j < zs.length by omega]

theorem owns_mono {w : World} {B B' : Nat} {e : TypeId} {s : Nat} {v : Value} {n : Nat} {xs : List Value} (h : w.ownsRow B e s v n xs) (hB : B' ≤ B) : w.ownsRow B' e s v n xs := by
  refine ⟨h.1, ?_⟩
  rcases h.2 with h0 | ⟨g, cap', cur, hv, hg, r⟩
  · exact Or.inl h0
  · exact Or.inr ⟨g, cap', cur, hv, by omega, r⟩

theorem grownBy_of_below {w w' : World} (h : Below w.heap.size w w') (row : Option Nat) : w.grownBy w' row :=
  ⟨h.os, h.tape, h.output, h.size, fun k hk _ => h.block k hk⟩

theorem grownBy_trans {a b c : World} {row : Option Nat} (h : a.grownBy b row) (k : b.grownBy c row) : a.grownBy c row :=
  ⟨k.os.trans h.os, k.tape.trans h.tape, k.output.trans h.output, Nat.le_trans h.size k.size, fun i hi hr => (k.block i (Nat.lt_of_lt_of_le hi h.size) hr).trans (h.block i hi hr)⟩

theorem owns_below {w w' : World} {B : Nat} {e : TypeId} {s : Nat} {v : Value} {n : Nat} {xs : List Value} (h : w.ownsRow B e s v n xs) (hb : Below w.heap.size w w') : w'.ownsRow B e s v n xs := by
  refine h.kept (grownBy_of_below hb none) ?_
  cases v.ownBlock <;> simp

/-- Two rows, the second made when the first lay already: they are apart. -/
theorem apart_new {w w' : World} {B B' : Nat} {e e' : TypeId} {s s' : Nat} {v v' : Value} {n n' : Nat} {xs xs' : List Value} (h : w.ownsRow B e s v n xs) (h' : w'.ownsRow B' e' s' v' n' xs') (hB : w.heap.size ≤ B') :
    v'.ownBlock = none ∨ v'.ownBlock ≠ v.ownBlock := by
  cases hv' : v'.ownBlock with
  | none => exact Or.inl rfl
  | some k' =>
    right
    intro hc
    have := (h'.lt k' hv').1
    have := (h.lt k' hc.symm).2
    omega

theorem apart_old {w w' : World} {B B' : Nat} {e e' : TypeId} {s s' : Nat} {v v' : Value} {n n' : Nat} {xs xs' : List Value} (h : w.ownsRow B e s v n xs) (h' : w'.ownsRow B' e' s' v' n' xs') (hB : w.heap.size ≤ B') :
    v.ownBlock = none ∨ v.ownBlock ≠ v'.ownBlock := by
  cases hv : v.ownBlock with
  | none => exact Or.inl rfl
  | some k =>
    right
    intro hc
    have := (h'.lt k hc.symm).1
    have := (h.lt k hv).2
    omega

structure Fr (X : Nat → Prop) (w w' : World) : Prop where
  os : w'.os = w.os
  tape : w'.tape = w.tape
  output : w'.output = w.output
  size : w.heap.size ≤ w'.heap.size
  block : ∀ k, k < w.heap.size → ¬ X k → w'.heap[k]? = w.heap[k]?

theorem Fr.refl (X : Nat → Prop) (w : World) : Fr X w w := ⟨rfl, rfl, rfl, Nat.le_refl _, fun _ _ _ => rfl⟩

theorem Fr.trans {X : Nat → Prop} {a b c : World} (h : Fr X a b) (k : Fr X b c) : Fr X a c :=
  ⟨k.os.trans h.os, k.tape.trans h.tape, k.output.trans h.output, Nat.le_trans h.size k.size, fun i hi hx => (k.block i (Nat.lt_of_lt_of_le hi h.size) hx).trans (h.block i hi hx)⟩

theorem Fr.drew {X : Nat → Prop} {a w : World} (h : Fr X a w) : Fr X a w.drew := ⟨h.os, h.tape, h.output, h.size, h.block⟩
theorem Fr.drewN {X : Nat → Prop} {a w : World} (h : Fr X a w) (n : Nat) : Fr X a (w.drewN n) := ⟨h.os, h.tape, h.output, h.size, h.block⟩

theorem Fr.alloc {X : Nat → Prop} {a w : World} (h : Fr X a w) (o : Obj) : Fr X a (w.alloc o) :=
  h.trans ⟨rfl, rfl, rfl, by simp, fun k hk _ => Below.heap_alloc _ _ _ hk⟩

theorem Fr.setCell {X : Nat → Prop} {a w : World} (h : Fr X a w) {p : Addr} (hp : X p.block ∨ a.heap.size ≤ p.block) (u : Value) : Fr X a (w.setCell p u) := by
  refine ⟨h.os, h.tape, h.output, Nat.le_trans h.size (by simp [World.setCell]), fun k hk hx => ?_⟩
  rw [Below.heap_setCell _ _ _ _ (fun e => ?_)]
  · exact h.block k hk hx
  · subst e
    rcases hp with hp | hp
    · exact hx hp
    · omega

theorem Fr.grown {X : Nat → Prop} {a w w' : World} {row : Option Nat} (h : Fr X a w) (hg : w.grownBy w' row) (hr : ∀ k, row = some k → X k ∨ a.heap.size ≤ k) : Fr X a w' := by
  refine ⟨hg.os.trans h.os, hg.tape.trans h.tape, hg.output.trans h.output, Nat.le_trans h.size hg.size, fun k hk hx => ?_⟩
  rw [hg.block k (Nat.lt_of_lt_of_le hk h.size) (fun e => ?_)]
  · exact h.block k hk hx
  · rcases hr k e.symm with hr | hr
    · exact hx hr
    · omega

theorem Fr.ofBelow {X : Nat → Prop} {w w' : World} (h : Below w.heap.size w w') : Fr X w w' := ⟨h.os, h.tape, h.output, h.size, fun k hk _ => h.block k hk⟩

theorem Fr.toGrown {X : Nat → Prop} {w w' : World} {row : Option Nat} (h : Fr X w w') (hx : ∀ k, k < w.heap.size → X k → row = some k) : w.grownBy w' row :=
  ⟨h.os, h.tape, h.output, h.size, fun k hk hr => h.block k hk (fun x => hr (hx k hk x).symm)⟩

theorem Fr.toBelow {X : Nat → Prop} {w w' : World} (h : Fr X w w') (hx : ∀ k, k < w.heap.size → ¬ X k) : Below w.heap.size w w' :=
  ⟨h.os, h.tape, h.output, h.size, fun k hk => h.block k hk (hx k hk)⟩

theorem Fr.weak {X Y : Nat → Prop} {w w' : World} (h : Fr X w w') (hx : ∀ k, k < w.heap.size → X k → Y k) : Fr Y w w' :=
  ⟨h.os, h.tape, h.output, h.size, fun k hk hy => h.block k hk (fun x => hy (hx k hk x))⟩

/-- Below a number under which nothing of X lies. -/
theorem Fr.below {X : Nat → Prop} {B : Nat} {w0 w w' : World} (h : Fr X w w') (h0 : Below B w0 w) (hB : B ≤ w.heap.size) (hx : ∀ k, k < B → ¬ X k) : Below B w0 w' :=
  h0.trans ⟨h.os, h.tape, h.output, h.size, fun k hk => h.block k (by omega) (hx k hk)⟩

theorem owns_fr {X : Nat → Prop} {w w' : World} {B : Nat} {e : TypeId} {s : Nat} {v : Value} {n : Nat} {xs : List Value} (h : w.ownsRow B e s v n xs) (hf : Fr X w w') (hx : ∀ k, v.ownBlock = some k → ¬ X k) : w'.ownsRow B e s v n xs := by
  refine ⟨h.1, ?_⟩
  rcases h.2 with hn | ⟨g, cap, cur, hv, hb, hgg, rest⟩
  · exact .inl hn
  · refine .inr ⟨g, cap, cur, hv, hb, ?_, rest⟩
    rw [hf.block g (Array.getElem?_eq_some_iff.1 hgg).1 (hx g (by rw [hv]; rfl))]
    exact hgg


theorem getD_map_int (k : IntKind) (ys : List Int) (j : Nat) (h : j < ys.length) : (ys.map (Value.int k))[j]? = some (Value.int k (ys.getD j 0)) := by
  simp [List.getD, h]

theorem take_snoc (zs : List Int) (k : Nat) (h : k < zs.length) : zs.take (k + 1) = zs.take k ++ [zs.getD k 0] := by
  rw [List.take_succ_eq_append_getElem h]
  simp [List.getD, h]

theorem ext_getD {xs ys : List Int} {n : Nat} (h1 : xs.length = n) (h2 : ys.length = n) (h : ∀ j, j < n → xs.getD j 0 = ys.getD j 0) : xs = ys := by
  apply List.ext_getElem (by omega)
  intro i h3 h4
  have := h i (by omega)
  simpa [List.getD, h3, h4] using this

theorem getD_set (l : List Int) (i j : Nat) (v : Int) : (l.set i v).getD j 0 = if i = j ∧ j < l.length then v else l.getD j 0 := by
  rw [List.getD_eq_getElem?_getD, List.getD_eq_getElem?_getD, List.getElem?_set]
  by_cases h : i = j
  · subst h
    by_cases h2 : i < l.length
    · simp [h2]
    · simp [h2]
  · simp [h]

theorem getD_take (q : List Int) (m j : Nat) (h : j < m) : (q.take m).getD j 0 = q.getD j 0 := by
  rw [List.getD_eq_getElem?_getD, List.getD_eq_getElem?_getD, List.getElem?_take, if_pos h]

theorem getD_mem (l : List Int) (i : Nat) (h : i < l.length) : l.getD i 0 ∈ l := by
  rw [List.getD_eq_getElem?_getD, List.getElem?_eq_getElem h]
  exact List.getElem_mem h

theorem owns_cell {w : World} {B : Nat} {e : TypeId} {k : IntKind} {g n cap : Nat} {zs : List Int} (h : w.ownsRow B e 1 (.slice (some ⟨g, 0, none⟩) n cap) n (zs.map (Value.int k))) (j : Nat) (hj : j < n) :
    w.cell? ⟨g, j, none⟩ = some (.int k (zs.getD j 0)) := by
  have hl : zs.length = n := by have := h.1; simpa using this
  rw [h.cellAt j (by omega)]; exact getD_map_int _ _ _ (by omega)

theorem owns_form {w : World} {B : Nat} {e : TypeId} {s : Nat} {a : Option Addr} {n cap : Nat} {xs : List Value} (h : w.ownsRow B e s (.slice a n cap) n xs) (hn : 0 < n) : ∃ g, a = some ⟨g, 0, none⟩ := by
  obtain ⟨g, cap', hv, _⟩ := h.form hn
  simp only [Value.slice.injEq] at hv
  exact ⟨g, hv.1⟩

theorem cap_of_owns {w : World} {B : Nat} {e : TypeId} {s g n cap : Nat} {xs : List Value} (h : w.ownsRow B e s (.slice (some ⟨g, 0, none⟩) n cap) n xs) : n ≤ cap ∧ cap ≤ maxLen := by
  rcases h.2 with ⟨h', _⟩ | ⟨g', cap', cur, h', _, hg, hn, hm, _⟩
  · simp at h'
  · simp only [Value.slice.injEq] at h'
    obtain ⟨_, _, rfl⟩ := h'
    exact ⟨hn, hm⟩

theorem Rd.fr {X : Nat → Prop} {k : IntKind} {w w' : World} {a : Option Addr} {n : Nat} {zs : List Int} (h : Rd k w a n zs) (hf : Fr X w w') (hx : ∀ b off, a = some ⟨b, off, none⟩ → ¬ X b) : Rd k w' a n zs := by
  refine ⟨h.1, ?_⟩
  rcases h.2 with h0 | ⟨b, off, ha, hc⟩
  · exact Or.inl h0
  · refine Or.inr ⟨b, off, ha, fun j hj => ?_⟩
    have hb := World.block_lt_of_cell? _ _ (hc j hj)
    rw [World.cell?_of_block (w := w) (hf.block b hb (hx b off ha))]
    exact hc j hj

/-- The first elements of what can be read. -/
theorem Rd.pre {k : IntKind} {w : World} {a : Option Addr} {n m : Nat} {zs : List Int} (h : Rd k w a n zs) (hm : m ≤ n) : Rd k w a m (zs.take m) := by
  refine ⟨by simp [h.1]; omega, ?_⟩
  by_cases h0 : m = 0
  · exact Or.inl h0
  · rcases h.2 with h1 | ⟨b, off, ha, hc⟩
    · omega
    · exact Or.inr ⟨b, off, ha, fun j hj => by rw [getD_take zs m j hj]; exact hc j (by omega)⟩

/-- The last elements of a row that is owned from its head. -/
theorem rd_drop {k : IntKind} {w : World} {B : Nat} {e : TypeId} {g n cap p : Nat} {zs : List Int} (h : w.ownsRow B e 1 (.slice (some ⟨g, 0, none⟩) n cap) n (zs.map (Value.int k))) (a : Option Addr) (hp : p ≤ n)
    (ha : p < n → a = some ⟨g, p, none⟩) : Rd k w a (n - p) (zs.drop p) := by
  have hl : zs.length = n := by have := h.1; simpa using this
  refine ⟨by simp; omega, ?_⟩
  by_cases h0 : n - p = 0
  · exact Or.inl h0
  · refine Or.inr ⟨g, p, ha (by omega), fun j hj => ?_⟩
    rw [owns_cell h (p + j) (by omega)]
    simp [List.getD]

theorem rd_in {k : IntKind} {w : World} {a : Option Addr} {len cap : Nat} {zs : List Int}
    (h : (a = none ∧ len = 0 ∧ cap = 0 ∧ zs = []) ∨
      ∃ x, a = some x ∧ len ≤ cap ∧ cap ≤ maxLen ∧ zs.length = cap ∧ (∀ i, i < zs.length → w.cell? (x.add i) = some (.int k (zs.getD i 0))) ∧ ∀ n ∈ zs, (Lit.int k n).wf = true) :
    Rd k w a len (zs.take len) ∧ (a = none → len = 0) ∧ ∀ z ∈ zs.take len, (Lit.int k z).wf = true := by
  rcases h with ⟨rfl, rfl, rfl, rfl⟩ | ⟨x, rfl, hl, hm, hz, hc, hw⟩
  · exact ⟨⟨rfl, Or.inl rfl⟩, fun _ => rfl, fun z hz => by simp at hz⟩
  · refine ⟨⟨by simp; omega, ?_⟩, fun e => (by cases e), fun z hz => hw z (List.mem_of_mem_take hz)⟩
    by_cases h0 : len = 0
    · exact Or.inl h0
    · right
      obtain ⟨b, off, spot⟩ := x
      have hspot : spot = none := by simpa [Addr.add] using World.cell?_spot (hc 0 (by omega))
      subst hspot
      refine ⟨b, off, rfl, fun j hj => ?_⟩
      rw [getD_take zs len j hj, ← hc j (by omega)]
      rw [Addr.add_lit]

theorem u8_range {zs : List Int} (h : ∀ z ∈ zs, (Lit.int .u8 z).wf = true) : ∀ z ∈ zs, 0 ≤ z ∧ z < 256 := by
  intro z hz
  have := bounds_u8 (h z hz)
  omega

theorem range_mem {zs : List Int} {lo hi : Int} (h : ∀ z ∈ zs, lo ≤ z ∧ z < hi) : ∀ j, j < zs.length → lo ≤ zs.getD j 0 ∧ zs.getD j 0 < hi :=
  fun j hj => h _ (getD_mem zs j hj)

theorem Try.info5 : (Try.prog.info? 5).map (fun i => (i.zero, i.size, i.bytes)) = some (some (.int .u8 0), 1, 1) := by kernel_rfl

end Go.Proofs.Qxb6001291a
