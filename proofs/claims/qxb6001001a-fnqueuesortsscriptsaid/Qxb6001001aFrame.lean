/-
  WHAT A CALL LEAVES AS IT WAS: 'Fr X w w'': of the blocks that w has, all but those of X are in w' as they were. (The library's 'Below' and 'grownBy' with a set of blocks.)
-/
import Derived.Test.Qxb6001001aInst
import Derived.OneCell
import Derived.Deep.AppendLies
namespace Go.Proofs.Qxb6001001a
open Go.RowKit
set_option linter.unusedVariables false

structure Fr (X : Nat → Prop) (w w' : World) : Prop where
  os : w'.os = w.os
  tape : w'.tape = w.tape
  output : w'.output = w.output
  size : w.heap.size ≤ w'.heap.size
  block : ∀ k, k < w.heap.size → ¬ X k → w'.heap[k]? = w.heap[k]?

theorem Fr.refl (X : Nat → Prop) (w : World) : Fr X w w := ⟨rfl, rfl, rfl, Nat.le_refl _, fun _ _ _ => rfl⟩

theorem Fr.trans {X : Nat → Prop} {a b c : World} (h : Fr X a b) (k : Fr X b c) : Fr X a c :=
  ⟨k.os.trans h.os, k.tape.trans h.tape, k.output.trans h.output, Nat.le_trans h.size k.size, fun i hi hx => (k.block i (Nat.lt_of_lt_of_le hi h.size) hx).trans (h.block i hi hx)⟩

theorem Fr.drew {X : Nat → Prop} {a w : World} (h : Fr X a w) : Fr X a w.drew := ⟨h.os, h.tape, h.output, h.size, h.block⟩
theorem Fr.drewN {X : Nat → Prop} {a w : World} (h : Fr X a w) (n : Nat) : Fr X a (w.drewN n) := ⟨h.os, h.tape, h.output, h.size, h.block⟩

theorem Fr.alloc {X : Nat → Prop} {a w : World} (h : Fr X a w) (o : Obj) : Fr X a (w.alloc o) :=
  h.trans ⟨rfl, rfl, rfl, by simp, fun k hk _ => Below.heap_alloc _ _ _ hk⟩

theorem Fr.setCell {X : Nat → Prop} {a w : World} (h : Fr X a w) {p : Addr} (hp : X p.block ∨ a.heap.size ≤ p.block) (u : Value) : Fr X a (w.setCell p u) := by
  refine ⟨h.os, h.tape, h.output, Nat.le_trans h.size (by simp [World.setCell]), fun k hk hx => ?_⟩
  rw [Below.heap_setCell _ _ _ _ (fun e => ?_)]
  · exact h.block k hk hx
  · subst e
    rcases hp with hp | hp
    · exact hx hp
    · omega

theorem Fr.grown {X : Nat → Prop} {a w w' : World} {row : Option Nat} (h : Fr X a w) (hg : w.grownBy w' row) (hr : ∀ k, row = some k → X k ∨ a.heap.size ≤ k) : Fr X a w' := by
  refine ⟨hg.os.trans h.os, hg.tape.trans h.tape, hg.output.trans h.output, Nat.le_trans h.size hg.size, fun k hk hx => ?_⟩
  rw [hg.block k (Nat.lt_of_lt_of_le hk h.size) (fun e => ?_)]
  · exact h.block k hk hx
  · rcases hr k e.symm with hr | hr
    · exact hx hr
    · omega

theorem Fr.ofBelow {X : Nat → Prop} {w w' : World} (h : Below w.heap.size w w') : Fr X w w' := ⟨h.os, h.tape, h.output, h.size, fun k hk _ => h.block k hk⟩

theorem Fr.toGrown {X : Nat → Prop} {w w' : World} {row : Option Nat} (h : Fr X w w') (hx : ∀ k, k < w.heap.size → X k → row = some k) : w.grownBy w' row :=
  ⟨h.os, h.tape, h.output, h.size, fun k hk hr => h.block k hk (fun x => hr (hx k hk x).symm)⟩

theorem Fr.toBelow {X : Nat → Prop} {w w' : World} (h : Fr X w w') (hx : ∀ k, k < w.heap.size → ¬ X k) : Below w.heap.size w w' :=
  ⟨h.os, h.tape, h.output, h.size, fun k hk => h.block k hk (hx k hk)⟩

theorem Fr.weak {X Y : Nat → Prop} {w w' : World} (h : Fr X w w') (hx : ∀ k, k < w.heap.size → X k → Y k) : Fr Y w w' :=
  ⟨h.os, h.tape, h.output, h.size, fun k hk hy => h.block k hk (fun x => hy (hx k hk x))⟩

/-- Below a number under which nothing of X lies. -/
theorem Fr.below {X : Nat → Prop} {B : Nat} {w0 w w' : World} (h : Fr X w w') (h0 : Below B w0 w) (hB : B ≤ w.heap.size) (hx : ∀ k, k < B → ¬ X k) : Below B w0 w' :=
  h0.trans ⟨h.os, h.tape, h.output, h.size, fun k hk => h.block k (by omega) (hx k hk)⟩

theorem owns_fr {X : Nat → Prop} {w w' : World} {B : Nat} {e : TypeId} {s : Nat} {v : Value} {n : Nat} {xs : List Value} (h : w.ownsRow B e s v n xs) (hf : Fr X w w') (hx : ∀ k, v.ownBlock = some k → ¬ X k) : w'.ownsRow B e s v n xs := by
  refine ⟨h.1, ?_⟩
  rcases h.2 with hn | ⟨g, cap, cur, hv, hb, hgg, rest⟩
  · exact .inl hn
  · refine .inr ⟨g, cap, cur, hv, hb, ?_, rest⟩
    rw [hf.block g (Array.getElem?_eq_some_iff.1 hgg).1 (hx g (by rw [hv]; rfl))]
    exact hgg

theorem Ati.fr {X : Nat → Prop} {B : Nat} {w w' : World} {v : Value} {n : Nat} {S N : List Int} (h : Ati B w v n S N) (hf : Fr X w w') (hx : ∀ k, v.ownBlock = some k → ¬ X k) : Ati B w' v n S N := by
  obtain ⟨ys, h1, h2⟩ := h
  exact ⟨ys, owns_fr h1 hf hx, h2⟩

end Go.Proofs.Qxb6001001a
