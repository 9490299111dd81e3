/-
  ZZPush (17): push on a queue of one's own.
-/
import Derived.Test.Qxb6001001aPush
namespace Go.Proofs.Qxb6001001a
open Go.RowKit
set_option linter.unusedVariables false

set_option maxHeartbeats 400000 in
theorem zzpush_any (B : Nat) (a : Option Addr) (gA n cap nA capA : Nat) (zs S N : List Int) (d : Int) (w : World)
    (hown : w.ownsRow B 23 1 (.slice a n cap) n (zs.map (Value.int .u32))) (hat : Ati B w (.slice (some ⟨gA, 0, none⟩) nA capA) nA S N)
    (hne3 : (Value.slice a n cap).ownBlock ≠ some gA) (hB : B ≤ w.heap.size)
    (hn : n ≤ 1048576) (hnA : nA ≤ 1048576) (hz : ∀ z ∈ zs, 0 ≤ z ∧ z < (nA : Int)) (hd0 : 0 ≤ d) (hd1 : d < (nA : Int)) (hheap : Heap.IsHeap (lat S N) zs) :
    Calls Try.prog 17 #[.slice a n cap, .int .u32 d, .slice (some ⟨gA, 0, none⟩) nA capA] w fun e w' => ∃ g cap' out, e = .returned (.slice (some ⟨g, 0, none⟩) (n + 1) cap') ∧
      w'.ownsRow B 23 1 (.slice (some ⟨g, 0, none⟩) (n + 1) cap') (n + 1) (out.map (Value.int .u32)) ∧
      Heap.IsHeap (lat S N) out ∧ out.Perm (zs ++ [d]) ∧ ((Value.slice a n cap).ownBlock = some g ∨ w.heap.size ≤ g) ∧ w.grownBy w' (Value.slice a n cap).ownBlock := by
  have HC : Hid (Calls Try.prog 24 #[.pointer (some ⟨w.heap.size, 0, none⟩), .int .u32 d, .slice (some ⟨gA, 0, none⟩) nA capA] (w.alloc (.cells #[.slice a n cap] 55)) fun e w' => e = .returned (.tuple #[]) ∧ ∃ g cap' out,
      w'.heap[w.heap.size]? = some (.cells #[.slice (some ⟨g, 0, none⟩) (n + 1) cap'] 55 (0, 0)) ∧ w'.ownsRow B 23 1 (.slice (some ⟨g, 0, none⟩) (n + 1) cap') (n + 1) (out.map (Value.int .u32)) ∧
      Heap.IsHeap (lat S N) out ∧ out.Perm (zs ++ [d]) ∧ ((Value.slice a n cap).ownBlock = some g ∨ (w.alloc (.cells #[.slice a n cap] 55)).heap.size ≤ g) ∧ Fr (fun k => k = w.heap.size ∨ (Value.slice a n cap).ownBlock = some k) (w.alloc (.cells #[.slice a n cap] 55)) w') := by
    have hlt := hown.lt
    obtain ⟨ysA, hA1, hA2⟩ := hat
    have lgA := (hA1.lt gA rfl).2
    refine push_any B w.heap.size a gA n cap nA capA zs S N d _ (heap_alloc_new w _) (hown.alloc _) ⟨ysA, hA1.alloc _, hA2⟩ ?_ (by omega) hne3 (by simp; omega) hn hnA hz hd0 hd1 hheap
    intro e
    have := (hlt _ e).2
    omega
  clear hown hat hz hheap hne3
  go_enter Try.func17, Try.ntmps17
  go_wp2_with fail
  refine HC.out.mono ?_
  rintro e w' ⟨rfl, g, cap', out, hb, ho, hh, hp, hg, hf⟩
  have cb := cell_of_one hb
  have HO : Hid (w'.ownsRow B 23 1 (.slice (some ⟨g, 0, none⟩) (n + 1) cap') (n + 1) (out.map (Value.int .u32)) ∧ Heap.IsHeap (lat S N) out ∧ out.Perm (zs ++ [d]) ∧ ((Value.slice a n cap).ownBlock = some g ∨ w.heap.size ≤ g) ∧ w.grownBy w' (Value.slice a n cap).ownBlock) := by
    refine ⟨ho, hh, hp, ?_, ?_⟩
    · rcases hg with h | h
      · exact Or.inl h
      · simp at h; exact Or.inr (by omega)
    · have h1 : Fr (fun k => k = w.heap.size ∨ (Value.slice a n cap).ownBlock = some k) w w' := ((Fr.refl _ w).alloc _).trans hf
      refine h1.toGrown (fun k hk hx => ?_)
      rcases hx with hx | hx
      · omega
      · exact hx
  clear ho hh hp hg hf hb HC
  go_wp2
  go_ret
  exact ⟨g, cap', out, rfl, HO.out⟩
end Go.Proofs.Qxb6001001a
