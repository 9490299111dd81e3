/-
  ZZInstants (16): the row of deadlines, two cells each.
-/
import Derived.Test.Qxb6001001aCount
import Derived.BigRegion
namespace Go.Proofs.Qxb6001001a
open Go.RowKit
set_option linter.unusedVariables false

/-- The deadlines: n of them, two cells each, from the head of a block that is not below B. -/
def Ati (B : Nat) (w : World) (v : Value) (n : Nat) (S N : List Int) : Prop :=
  ∃ ys : List Value, w.ownsRow B 52 2 v n ys ∧ ∀ j, j < n → ys[j * 2]? = some (.int .i64 (S.getD j 0)) ∧ ys[j * 2 + 1]? = some (.int .i32 (N.getD j 0))

set_option maxRecDepth 100000 in
set_option maxHeartbeats 800000 in
theorem inst_any (a a' : Option Addr) (n ca cb : Nat) (S N : List Int) (w : World) (hS : Rd .i64 w a n S) (hN : Rd .i32 w a' n N) (hn : n ≤ 1048576) :
    Calls Try.prog 16 #[.slice a n ca, .slice a' n cb] w fun e w' => e = .returned (.slice (some ⟨w.heap.size, 0, none⟩) n n) ∧
      Ati w.heap.size w' (.slice (some ⟨w.heap.size, 0, none⟩) n n) n S N ∧ Below w.heap.size w w' := by
  obtain ⟨i0, hi, hz0, hz1, hz2⟩ := info_parts Try.info52
  go_enter Try.func16, Try.ntmps16
  go_wp2_with (at_make; refine wpList_make_full _ rfl _ _ 39 rfl w.heap.size 52 i0 (.agg #[.int .i64 0, .int .i32 0]) 2 Try.underlying39 hi hz0 hz1 _ _ _ _ n rfl rfl rfl rfl (by rw [hz2]; omega) (by unfold maxLen; omega) (Nat.le_refl _) ?_; intro w1 hown hgrow)
  have HO : Hid (∃ ys, w1.ownsRow w.heap.size 52 2 (.slice (some ⟨w.heap.size, 0, none⟩) n n) n ys) := ⟨_, hown⟩
  have HB : Hid (Below w.heap.size w w1) := (Below.refl _ _).grown hgrow (Nat.le_refl _) (by simp)
  clear hown hgrow hi hz0 hz1 hz2
  go_wp2
  go_loopw [6] (fun i wr => ∃ k : Nat, k ≤ n ∧ i = .int .i64 k ∧ Hid (Below w.heap.size w wr) ∧
      Hid (∃ ys : List Value, wr.ownsRow w.heap.size 52 2 (.slice (some ⟨w.heap.size, 0, none⟩) n n) n ys ∧ ∀ j, j < k → ys[j * 2]? = some (.int .i64 (S.getD j 0)) ∧ ys[j * 2 + 1]? = some (.int .i32 (N.getD j 0)))) (fun i _ => n - (intOf i).toNat)
  case atStart =>
    obtain ⟨ys, h1⟩ := HO
    exact ⟨0, Nat.zero_le _, rfl, HB, ys, h1, fun j hj => by omega⟩
  case round =>
    obtain ⟨k, hk, rfl, HBr, HOr⟩ := hrel
    clear HO HB
    by_cases hlt : k < n
    · have hS' := hS.below HBr.out
      have hN' := hN.below HBr.out
      obtain ⟨b, off, rfl, hc⟩ := hS'.at k hlt
      obtain ⟨b', off', rfl, hc'⟩ := hN'.at k hlt
      have c1 := hc k hlt
      have c2 := hc' k hlt
      obtain ⟨ys, y1, y2⟩ := HOr
      have yl : ys.length = n * 2 := y1.1
      obtain ⟨u0, hu0⟩ : ∃ u, ys[k * 2]? = some u := ⟨_, List.getElem?_eq_getElem (by omega)⟩
      obtain ⟨u1, hu1⟩ : ∃ u, ys[k * 2 + 1]? = some u := ⟨_, List.getElem?_eq_getElem (by omega)⟩
      have d0 : wr.cell? ⟨w.heap.size, k * 2, none⟩ = some u0 := by rw [y1.cellAt _ (by omega), hu0]
      have d1 : wr.cell? ⟨w.heap.size, k * 2 + 1, none⟩ = some u1 := by rw [y1.cellAt _ (by omega), hu1]
      have f0 := y1.frozenAt (k * 2)
      have f1 := y1.frozenAt (k * 2 + 1)
      have HY : Hid (ys.length = n * 2 ∧ (∀ j, j < k → ys[j * 2]? = some (.int .i64 (S.getD j 0)) ∧ ys[j * 2 + 1]? = some (.int .i32 (N.getD j 0))) ∧ wr.ownsRow w.heap.size 52 2 (.slice (some ⟨w.heap.size, 0, none⟩) n n) n ys) := ⟨yl, y2, y1⟩
      clear hc hc' hS' hN' hS hN y1 y2 yl hu0 hu1
      have HSk : Hid (∃ s, s = S.getD k 0) := ⟨_, rfl⟩
      generalize hs : S.getD k 0 = s at c1
      generalize hn : N.getD k 0 = m at c2
      have HS : Hid (S.getD k 0 = s ∧ N.getD k 0 = m) := ⟨hs, hn⟩
      clear hs hn HSk
      have k1 : (k : Int) < (n : Int) := by omega
      have k0 : (0 : Int) ≤ (k : Int) := by omega
      go_wp2
      go_region
      go_wp2
      go_roundw
      case rel =>
        obtain ⟨y1, y2, y3⟩ := HY
        obtain ⟨s1, s2⟩ := HS
        have o1 := (y3.stored (k * 2) (Value.int .i64 s)).1
        have o2 := (o1.stored (k * 2 + 1) (Value.int .i32 m)).1
        refine ⟨k + 1, by omega, by go_num, ((HBr.out.setCell (Nat.le_refl _) _).setCell (Nat.le_refl _) _).drew, _, o2.drew, ?_⟩
        intro j hj
        by_cases e : j = k
        · subst e
          rw [s1, s2]
          constructor
          · rw [List.getElem?_set_ne (by omega), List.getElem?_set_self (by omega)]
          · rw [List.getElem?_set_self (by simp; omega)]
        · obtain ⟨q1, q2⟩ := y2 j (by omega)
          constructor
          · rw [List.getElem?_set_ne (by omega), List.getElem?_set_ne (by omega)]; exact q1
          · rw [List.getElem?_set_ne (by omega), List.getElem?_set_ne (by omega)]; exact q2
      case measure => simp [intOf]; omega
    · clear hS hN
      go_wp2
      go_ret
      refine ⟨rfl, ?_, HBr.out⟩
      obtain ⟨ys, y1, y2⟩ := HOr
      exact ⟨ys, y1, fun j hj => y2 j (by omega)⟩

/-! ### how the row of deadlines is read, and what it outlives -/

theorem Ati.at {B : Nat} {w : World} {a : Option Addr} {n cap : Nat} {S N : List Int} (h : Ati B w (.slice a n cap) n S N) (hn : 0 < n) :
    ∃ b, a = some ⟨b, 0, none⟩ ∧ B ≤ b ∧ b < w.heap.size ∧ ∀ j, j < n → w.cell? ⟨b, j * 2, none⟩ = some (.int .i64 (S.getD j 0)) ∧ w.cell? ⟨b, j * 2 + 1, none⟩ = some (.int .i32 (N.getD j 0)) := by
  obtain ⟨ys, h1, h2⟩ := h
  rcases h1.2 with ⟨_, h0⟩ | ⟨g, cap', cur, hv, hg, _⟩
  · omega
  · have hlt := h1.lt
    simp only [Value.slice.injEq] at hv
    obtain ⟨rfl, _, rfl⟩ := hv
    refine ⟨g, rfl, hg, (hlt g rfl).2, fun j hj => ⟨?_, ?_⟩⟩
    · rw [h1.cellAt _ (by omega)]; exact (h2 j hj).1
    · rw [h1.cellAt _ (by omega)]; exact (h2 j hj).2

theorem Ati.below {B : Nat} {w w' : World} {v : Value} {n : Nat} {S N : List Int} (h : Ati B w v n S N) (hb : Below w.heap.size w w') : Ati B w' v n S N := by
  obtain ⟨ys, h1, h2⟩ := h
  exact ⟨ys, owns_below h1 hb, h2⟩

theorem Ati.kept {B : Nat} {w w' : World} {v : Value} {n : Nat} {S N : List Int} {row : Option Nat} (h : Ati B w v n S N) (hg : w.grownBy w' row) (hne : v.ownBlock = none ∨ v.ownBlock ≠ row) : Ati B w' v n S N := by
  obtain ⟨ys, h1, h2⟩ := h
  exact ⟨ys, h1.kept hg hne, h2⟩

theorem Ati.mono {B B' : Nat} {w : World} {v : Value} {n : Nat} {S N : List Int} (h : Ati B w v n S N) (hB : B' ≤ B) : Ati B' w v n S N := by
  obtain ⟨ys, h1, h2⟩ := h
  exact ⟨ys, owns_mono h1 hB, h2⟩

end Go.Proofs.Qxb6001001a
