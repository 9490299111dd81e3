/-
  A SLICE OF INTEGERS THAT CAME IN, as the shells tell it ('IsRow'), in this seat's words ('Rd').
-/
import Derived.Test.Qxb6001001aBase
import Derived.OpenShut
namespace Go.Proofs.Qxb6001001a
open Go.RowKit Go.ChangeShapes Go.WideShapes Go.ChangeAt

theorem rd_in {k : IntKind} {w : World} {a : Option Addr} {len cap : Nat} {zs : List Int}
    (h : (a = none ∧ len = 0 ∧ cap = 0 ∧ zs = []) ∨
      ∃ x, a = some x ∧ len ≤ cap ∧ cap ≤ maxLen ∧ zs.length = cap ∧ (∀ i, i < zs.length → w.cell? (x.add i) = some (.int k (zs.getD i 0))) ∧ ∀ n ∈ zs, (Lit.int k n).wf = true) :
    Rd k w a len (zs.take len) ∧ (a = none → len = 0) ∧ ∀ z ∈ zs.take len, (Lit.int k z).wf = true := by
  rcases h with ⟨rfl, rfl, rfl, rfl⟩ | ⟨x, rfl, hl, hm, hz, hc, hw⟩
  · exact ⟨⟨rfl, Or.inl rfl⟩, fun _ => rfl, fun z hz => by simp at hz⟩
  · refine ⟨⟨by simp; omega, ?_⟩, fun e => (by cases e), fun z hz => hw z (List.mem_of_mem_take hz)⟩
    by_cases h0 : len = 0
    · exact Or.inl h0
    · right
      obtain ⟨b, off, spot⟩ := x
      have hspot : spot = none := by simpa [Addr.add] using World.cell?_spot (hc 0 (by omega))
      subst hspot
      refine ⟨b, off, rfl, fun j hj => ?_⟩
      rw [Heap.getD_take zs len j hj, ← hc j (by omega)]
      rw [Addr.add_lit]

theorem u32_range {zs : List Int} (h : ∀ z ∈ zs, (Lit.int .u32 z).wf = true) : ∀ z ∈ zs, 0 ≤ z ∧ z < 4294967296 := by
  intro z hz
  have := bounds_u32 (h z hz)
  omega
end Go.Proofs.Qxb6001001a
