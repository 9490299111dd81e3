/-
  ZZPop (21): pop on a queue of one's own.
-/
import Derived.Test.Qxb6001001aPop
namespace Go.Proofs.Qxb6001001a
open Go.RowKit
set_option linter.unusedVariables false

theorem cap_of_owns {w : World} {B : Nat} {e : TypeId} {s g n cap : Nat} {xs : List Value} (h : w.ownsRow B e s (.slice (some ⟨g, 0, none⟩) n cap) n xs) : n ≤ cap := by
  rcases h.2 with ⟨h', _⟩ | ⟨g', cap', cur, h', _, hg, hn, _⟩
  · simp at h'
  · simp only [Value.slice.injEq] at h'
    obtain ⟨_, _, rfl⟩ := h'
    exact hn

theorem pop_any (B bx gA g n cap nA capA : Nat) (zs S N : List Int) (w : World)
    (hbx : w.heap[bx]? = some (.cells #[.slice (some ⟨g, 0, none⟩) (n + 1) cap] 55 (0, 0))) (hown : w.ownsRow B 23 1 (.slice (some ⟨g, 0, none⟩) (n + 1) cap) (n + 1) (zs.map (Value.int .u32)))
    (hat : Ati B w (.slice (some ⟨gA, 0, none⟩) nA capA) nA S N) (hne1 : g ≠ bx) (hne2 : gA ≠ bx) (hne3 : g ≠ gA)
    (hn : n ≤ 1048576) (hnA : nA ≤ 1048576) (hz : ∀ z ∈ zs, 0 ≤ z ∧ z < (nA : Int)) (hheap : Heap.IsHeap (lat S N) zs) :
    Calls Try.prog 25 #[.pointer (some ⟨bx, 0, none⟩), .slice (some ⟨gA, 0, none⟩) nA capA] w fun e w' => e = .returned (.int .u32 (zs.getD 0 0)) ∧ Popped B bx g n cap S N zs w w' := by
  have hc := cap_of_owns hown
  cases n with
  | zero => exact pop_one B bx gA g cap nA capA zs S N w hbx hown hat hne1 hne2 hc
  | succ m => exact pop_more B bx gA g m cap nA capA zs S N w hbx hown hat hne1 hne2 hne3 hc (by omega) hnA hz hheap

set_option maxHeartbeats 400000 in
theorem zzpop_any (B gA g n cap nA capA : Nat) (zs S N : List Int) (w : World)
    (hown : w.ownsRow B 23 1 (.slice (some ⟨g, 0, none⟩) (n + 1) cap) (n + 1) (zs.map (Value.int .u32))) (hat : Ati B w (.slice (some ⟨gA, 0, none⟩) nA capA) nA S N)
    (hne3 : g ≠ gA) (hn : n ≤ 1048576) (hnA : nA ≤ 1048576) (hz : ∀ z ∈ zs, 0 ≤ z ∧ z < (nA : Int)) (hheap : Heap.IsHeap (lat S N) zs) :
    Calls Try.prog 21 #[.slice (some ⟨g, 0, none⟩) (n + 1) cap, .slice (some ⟨gA, 0, none⟩) nA capA] w fun e w' => ∃ out, e = .returned (.tuple #[.int .u32 (zs.getD 0 0), .slice (some ⟨g, 0, none⟩) n cap]) ∧
      w'.ownsRow B 23 1 (.slice (some ⟨g, 0, none⟩) n cap) n (out.map (Value.int .u32)) ∧ Heap.IsHeap (lat S N) out ∧ (zs.getD 0 0 :: out).Perm zs ∧ w.grownBy w' (some g) := by
  have HC : Hid (Calls Try.prog 25 #[.pointer (some ⟨w.heap.size, 0, none⟩), .slice (some ⟨gA, 0, none⟩) nA capA] (w.alloc (.cells #[.slice (some ⟨g, 0, none⟩) (n + 1) cap] 55)) fun e w' => e = .returned (.int .u32 (zs.getD 0 0)) ∧ Popped B w.heap.size g n cap S N zs (w.alloc (.cells #[.slice (some ⟨g, 0, none⟩) (n + 1) cap] 55)) w') := by
    have hlt := (hown.lt g rfl).2
    obtain ⟨ysA, hA1, hA2⟩ := hat
    have lgA := (hA1.lt gA rfl).2
    exact pop_any B w.heap.size gA g n cap nA capA zs S N _ (heap_alloc_new w _) (hown.alloc _) ⟨ysA, hA1.alloc _, hA2⟩ (by omega) (by omega) hne3 hn hnA hz hheap
  have hlt := (hown.lt g rfl).2
  generalize hz0 : zs.getD 0 0 = z0 at HC ⊢
  have HZ : Hid (zs.getD 0 0 = z0) := hz0
  clear hz0
  clear hown hat hz hheap hne3
  go_enter Try.func21, Try.ntmps21
  go_wp2_with fail
  refine HC.out.mono ?_
  rintro e w' ⟨rfl, out, hb, ho, hh, hp, hf⟩
  have cb := cell_of_one hb
  have HO : Hid (w'.ownsRow B 23 1 (.slice (some ⟨g, 0, none⟩) n cap) n (out.map (Value.int .u32)) ∧ Heap.IsHeap (lat S N) out ∧ (z0 :: out).Perm zs ∧ w.grownBy w' (some g)) := by
    rw [HZ.out] at hp
    refine ⟨ho, hh, hp, ?_⟩
    have h1 : Fr (fun k => k = w.heap.size ∨ k = g) w w' := ((Fr.refl _ w).alloc _).trans hf
    refine h1.toGrown (fun k hk hx => ?_)
    rcases hx with hx | hx
    · omega
    · rw [hx]
  clear ho hh hp hf hb HC
  go_wp2
  go_quiet (fail)
  go_wp2
  go_ret2
  obtain ⟨o1, o2, o3, o4⟩ := HO.out
  have hbd : Below w'.heap.size w' (w'.drewN nq) := below_drewN (Below.refl _ _) _
  exact ⟨out, rfl, owns_below o1 hbd, o2, o3, grownBy_trans o4 (grownBy_of_below hbd _)⟩
end Go.Proofs.Qxb6001001a
