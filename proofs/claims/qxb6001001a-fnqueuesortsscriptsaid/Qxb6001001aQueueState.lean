/-
  FnQueueSortsScript: what holds at the heads of its two loops, and what a round does to it (no walk here).
-/
import Derived.Test.Qxb6001001aPopLaw
namespace Go.Proofs.Qxb6001001a
open Go.RowKit
set_option linter.unusedVariables false

theorem blk_eq (a : Option Addr) (n cap : Nat) : (Value.slice a n cap).ownBlock = (Value.slice a 0 0).ownBlock := by cases a <;> rfl

theorem owns_rebase {w : World} {B : Nat} {e : TypeId} {s g n cap : Nat} {xs : List Value} (h : w.ownsRow 0 e s (.slice (some ⟨g, 0, none⟩) n cap) n xs) (hg : B ≤ g) : w.ownsRow B e s (.slice (some ⟨g, 0, none⟩) n cap) n xs := by
  refine ⟨h.1, ?_⟩
  rcases h.2 with h0 | ⟨g', cap', cur, hv, _, r⟩
  · exact Or.inl h0
  · refine Or.inr ⟨g', cap', cur, hv, ?_, r⟩
    simp only [Value.slice.injEq, Option.some.injEq, Addr.mk.injEq] at hv
    omega

/-! ### pushing -/
def LS (B : Nat) (S N zs : List Int) (w5 wr : World) (a : Option Addr) (k cap : Nat) (hs : List Int) : Prop :=
  wr.ownsRow B 23 1 (.slice a k cap) k (hs.map (Value.int .u32)) ∧ Heap.IsHeap (lat S N) hs ∧ hs.Perm (zs.take k) ∧ Below B w5 wr

theorem ls_start (B : Nat) (S N zs : List Int) (w5 : World) : LS B S N zs w5 w5 none 0 0 [] :=
  ⟨World.ownsRow_nil _ _ _ _, fun j h1 h2 => by simp at h2, by simp, Below.refl _ _⟩

theorem ls_step {B : Nat} {S N zs hs out : List Int} {w5 wr W : World} {a : Option Addr} {k cap g cap' : Nat} {zk : Int} (h : LS B S N zs w5 wr a k cap hs) (hB : B ≤ wr.heap.size) (hk : k < zs.length) (hzk : zs.getD k 0 = zk)
    (ho : W.ownsRow 0 23 1 (.slice (some ⟨g, 0, none⟩) (k + 1) cap') (k + 1) (out.map (Value.int .u32))) (hh : Heap.IsHeap (lat S N) out) (hp : out.Perm (hs ++ [zk]))
    (hg : (Value.slice a k cap).ownBlock = some g ∨ wr.heap.size ≤ g) (gr : wr.grownBy W (Value.slice a k cap).ownBlock) : LS B S N zs w5 W (some ⟨g, 0, none⟩) (k + 1) cap' out := by
  obtain ⟨h1, h2, h3, h4⟩ := h
  refine ⟨owns_rebase ho ?_, hh, ?_, h4.grown gr hB (fun j hj => (h1.lt j hj).1)⟩
  · rcases hg with hg | hg
    · exact (h1.lt g hg).1
    · omega
  · rw [take_snoc zs k hk, hzk]
    exact hp.trans (h3.append_right _)

/-! ### popping -/
def QS (B : Nat) (a : Option Addr) (cap gH n : Nat) (S N zs : List Int) (wS wr : World) (r : Nat) (hs done : List Int) : Prop :=
  wr.ownsRow B 23 1 (.slice a r cap) r (hs.map (Value.int .u32)) ∧ Heap.IsHeap (lat S N) hs ∧ (done ++ hs).Perm zs ∧
  wr.ownsRow gH 3 1 (.slice (some ⟨gH, 0, none⟩) n n) n ((cnt done n).map (Value.int .i64)) ∧ Fr (fun k => (Value.slice a 0 0).ownBlock = some k ∨ k = gH) wS wr

theorem qs_below {B : Nat} {a : Option Addr} {cap gH n : Nat} {S N zs : List Int} {wS wr W : World} {r : Nat} {hs done : List Int} (h : QS B a cap gH n S N zs wS wr r hs done) (hb : Below wr.heap.size wr W) : QS B a cap gH n S N zs wS W r hs done := by
  obtain ⟨h1, h2, h3, h4, h5⟩ := h
  exact ⟨owns_below h1 hb, h2, h3, owns_below h4 hb, h5.trans (Fr.ofBelow hb)⟩

/-- Behind the pop and 'have[d]++'. -/
theorem qs_step {B g cap gH n : Nat} {S N zs : List Int} {wS wr W : World} {r p : Nat} {hs out done : List Int} {dv : Int} (h : QS B (some ⟨g, 0, none⟩) cap gH n S N zs wS wr r hs done) (hne : g ≠ gH) (hB : B ≤ g)
    (hd0 : 0 ≤ dv) (hd1 : dv < (n : Int)) (ho : W.ownsRow 0 23 1 (.slice (some ⟨g, 0, none⟩) p cap) p (out.map (Value.int .u32))) (hh : Heap.IsHeap (lat S N) out) (hp : (dv :: out).Perm hs) (gr : wr.grownBy W (some g)) :
    QS B (some ⟨g, 0, none⟩) cap gH n S N zs wS (W.setCell ⟨gH, dv.toNat, none⟩ (.int .i64 ((cnt done n).getD dv.toNat 0 + 1))) p out (done ++ [dv]) ∧
    W.ownsRow gH 3 1 (.slice (some ⟨gH, 0, none⟩) n n) n ((cnt done n).map (Value.int .i64)) := by
  obtain ⟨h1, h2, h3, h4, h5⟩ := h
  have h4' : W.ownsRow gH 3 1 (.slice (some ⟨gH, 0, none⟩) n n) n ((cnt done n).map (Value.int .i64)) := h4.kept gr (Or.inr (by simp [Value.ownBlock]; omega))
  have F1 : Fr (fun k => (Value.slice (some ⟨g, 0, none⟩) 0 0).ownBlock = some k ∨ k = gH) wS W := h5.grown gr (fun k hk => Or.inl (Or.inl (by simpa [Value.ownBlock] using hk)))
  refine ⟨⟨?_, hh, ?_, ?_, F1.setCell (p := ⟨gH, dv.toNat, none⟩) (Or.inl (Or.inr rfl)) _⟩, h4'⟩
  · exact ownsRow_setCell_other (owns_rebase ho hB) (by simpa [Value.ownBlock] using hne) _
  · have : (done ++ [dv] ++ out).Perm (done ++ hs) := by
      rw [List.append_assoc]
      exact List.Perm.append_left done hp
    exact this.trans h3
  · have := (h4'.stored dv.toNat (.int .i64 ((cnt done n).getD dv.toNat 0 + 1))).1
    rw [← List.map_set] at this
    have e := cnt_snoc done n dv.toNat (by omega)
    rw [show ((dv.toNat : Nat) : Int) = dv by omega] at e
    rw [e]
    exact this

end Go.Proofs.Qxb6001001a
