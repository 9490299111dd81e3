/-
  THE SEAT's VOCABULARY: a slice of integers that can be read ('Rd'); one that the call owns ('World.ownsRow' of the library); how both stand behind new memory and behind a write to another row. The plain tests that the Go text computes.
-/
import Derived.Test.Qxb6001001aHeap
import Derived.Test.Qxb6001001aRows
import Derived.WalkKit
import Derived.ProofKit
import Derived.Below
import Derived.WalkSpells
import Derived.WalkSmall
namespace Go.Proofs.Qxb6001001a
open Go.RowKit

theorem ret_bool {a b : Bool} (h : a = b) : Ending.returned (.bool a) = .returned (.bool b) := by rw [h]

/-- A slice of n integers that can be read: they are zs. -/
def Rd (k : IntKind) (w : World) (a : Option Addr) (n : Nat) (zs : List Int) : Prop :=
  zs.length = n ∧ (n = 0 ∨ ∃ b off, a = some ⟨b, off, none⟩ ∧ ∀ j, j < n → w.cell? ⟨b, off + j, none⟩ = some (.int k (zs.getD j 0)))

theorem Rd.at {k : IntKind} {w : World} {a : Option Addr} {n : Nat} {zs : List Int} (h : Rd k w a n zs) (j : Nat) (hj : j < n) :
    ∃ b off, a = some ⟨b, off, none⟩ ∧ ∀ j, j < n → w.cell? ⟨b, off + j, none⟩ = some (.int k (zs.getD j 0)) := by
  rcases h.2 with h0 | h0
  · omega
  · exact h0

theorem Rd.below {k : IntKind} {w w' : World} {a : Option Addr} {n : Nat} {zs : List Int} (h : Rd k w a n zs) (hb : Below w.heap.size w w') : Rd k w' a n zs := by
  refine ⟨h.1, ?_⟩
  rcases h.2 with h0 | ⟨b, off, ha, hc⟩
  · exact Or.inl h0
  · exact Or.inr ⟨b, off, ha, fun j hj => cell_later hb (hc j hj)⟩

theorem Rd.belowAt {k : IntKind} {w0 w w' : World} {a : Option Addr} {n : Nat} {zs : List Int} (h : Rd k w0 a n zs) (hb : Below w0.heap.size w0 w) (hb2 : Below w0.heap.size w w') : Rd k w' a n zs :=
  h.below (hb.trans hb2)

/-- What is owned can be read. -/
theorem rd_of_owns {k : IntKind} {w : World} {B : Nat} {e : TypeId} {a : Option Addr} {n cap : Nat} {zs : List Int} (h : w.ownsRow B e 1 (.slice a n cap) n (zs.map (Value.int k))) : Rd k w a n zs := by
  have hl : zs.length = n := by have := h.1; simpa using this
  refine ⟨hl, ?_⟩
  rcases h.2 with ⟨h0, h1⟩ | ⟨g, cap', cur, hv, _⟩
  · exact Or.inl h1
  · simp only [Value.slice.injEq] at hv
    obtain ⟨rfl, _, rfl⟩ := hv
    refine Or.inr ⟨g, 0, rfl, fun j hj => ?_⟩
    rw [Nat.zero_add, h.cellAt j (by omega)]
    simp [List.getD, show j < zs.length by omega]

theorem owns_mono {w : World} {B B' : Nat} {e : TypeId} {s : Nat} {v : Value} {n : Nat} {xs : List Value} (h : w.ownsRow B e s v n xs) (hB : B' ≤ B) : w.ownsRow B' e s v n xs := by
  refine ⟨h.1, ?_⟩
  rcases h.2 with h0 | ⟨g, cap', cur, hv, hg, r⟩
  · exact Or.inl h0
  · exact Or.inr ⟨g, cap', cur, hv, by omega, r⟩

theorem grownBy_of_below {w w' : World} (h : Below w.heap.size w w') (row : Option Nat) : w.grownBy w' row :=
  ⟨h.os, h.tape, h.output, h.size, fun k hk _ => h.block k hk⟩

theorem grownBy_trans {a b c : World} {row : Option Nat} (h : a.grownBy b row) (k : b.grownBy c row) : a.grownBy c row :=
  ⟨k.os.trans h.os, k.tape.trans h.tape, k.output.trans h.output, Nat.le_trans h.size k.size, fun i hi hr => (k.block i (Nat.lt_of_lt_of_le hi h.size) hr).trans (h.block i hi hr)⟩

theorem owns_below {w w' : World} {B : Nat} {e : TypeId} {s : Nat} {v : Value} {n : Nat} {xs : List Value} (h : w.ownsRow B e s v n xs) (hb : Below w.heap.size w w') : w'.ownsRow B e s v n xs := by
  refine h.kept (grownBy_of_below hb none) ?_
  cases v.ownBlock <;> simp

/-- Two rows, the second made when the first lay already: they are apart. -/
theorem apart_new {w w' : World} {B B' : Nat} {e e' : TypeId} {s s' : Nat} {v v' : Value} {n n' : Nat} {xs xs' : List Value} (h : w.ownsRow B e s v n xs) (h' : w'.ownsRow B' e' s' v' n' xs') (hB : w.heap.size ≤ B') :
    v'.ownBlock = none ∨ v'.ownBlock ≠ v.ownBlock := by
  cases hv' : v'.ownBlock with
  | none => exact Or.inl rfl
  | some k' =>
    right
    intro hc
    have := (h'.lt k' hv').1
    have := (h.lt k' hc.symm).2
    omega

theorem apart_old {w w' : World} {B B' : Nat} {e e' : TypeId} {s s' : Nat} {v v' : Value} {n n' : Nat} {xs xs' : List Value} (h : w.ownsRow B e s v n xs) (h' : w'.ownsRow B' e' s' v' n' xs') (hB : w.heap.size ≤ B') :
    v.ownBlock = none ∨ v.ownBlock ≠ v'.ownBlock := by
  cases hv : v.ownBlock with
  | none => exact Or.inl rfl
  | some k =>
    right
    intro hc
    have := (h'.lt k hc.symm).1
    have := (h.lt k hv).2
    omega

/-! ### the plain tests -/

def inB (zs : List Int) (n : Nat) : Bool := zs.all fun z => decide (z < (n : Int))

theorem inB_take (zs : List Int) (n k : Nat) (hk : k < zs.length) : inB (zs.take (k + 1)) n = (inB (zs.take k) n && decide (zs.getD k 0 < (n : Int))) := by
  unfold inB
  rw [List.take_succ_eq_append_getElem hk, List.all_append]
  simp [List.getD, hk]

theorem inB_take_false (zs : List Int) (n k : Nat) (h : inB (zs.take k) n = false) : inB zs n = false := by
  unfold inB at *
  rw [← List.take_append_drop k zs, List.all_append, h]
  rfl

theorem inB_iff (zs : List Int) (n : Nat) : inB zs n = true ↔ ∀ z ∈ zs, z < (n : Int) := by
  unfold inB
  simp [List.all_eq_true]

def aftB (s1 n1 s2 n2 : Int) : Bool := if s1 = s2 then decide (n2 < n1) else decide (s2 < s1)

def lat (S N : List Int) (x y : Int) : Bool := aftB (S.getD x.toNat 0) (N.getD x.toNat 0) (S.getD y.toNat 0) (N.getD y.toNat 0)

theorem aftB_iff (s1 n1 s2 n2 : Int) : aftB s1 n1 s2 n2 = true ↔ s2 < s1 ∨ (s1 = s2 ∧ n2 < n1) := by
  unfold aftB
  by_cases h : s1 = s2
  · simp [h]
  · simp [h]

theorem aftB_false (s1 n1 s2 n2 : Int) : aftB s1 n1 s2 n2 = false ↔ ¬ (s2 < s1 ∨ (s1 = s2 ∧ n2 < n1)) := by
  rw [← aftB_iff]
  simp

theorem lat_order (S N : List Int) : Heap.Order (lat S N) := by
  constructor
  · intro a b c h1 h2
    unfold lat at *
    rw [aftB_false] at *
    omega
  · intro a b h
    unfold lat at *
    rw [aftB_iff] at h
    rw [aftB_false]
    omega

def heapB (A : Int → Int → Bool) (zs : List Int) (k : Nat) : Bool := (List.range k).all fun j => j == 0 || !(A (zs.getD ((j - 1) / 2) 0) (zs.getD j 0))

theorem heapB_succ (A : Int → Int → Bool) (zs : List Int) (m : Nat) : heapB A zs (m + 2) = (heapB A zs (m + 1) && !(A (zs.getD (m / 2) 0) (zs.getD (m + 1) 0))) := by
  unfold heapB
  rw [show m + 2 = (m + 1) + 1 from rfl, List.range_succ (n := m + 1), List.all_append]
  simp

theorem heapB_false (A : Int → Int → Bool) (zs : List Int) (m n : Nat) (h : heapB A zs m = false) (hmn : m ≤ n) : heapB A zs n = false := by
  unfold heapB at *
  rw [List.all_eq_false] at *
  obtain ⟨x, hx, hb⟩ := h
  exact ⟨x, by rw [List.mem_range] at *; omega, hb⟩

theorem heapB_iff (A : Int → Int → Bool) (zs : List Int) : heapB A zs zs.length = true ↔ Heap.IsHeap A zs := by
  unfold heapB Heap.IsHeap
  rw [List.all_eq_true]
  constructor
  · intro h j h1 h2
    have := h j (List.mem_range.2 h2)
    have e : (j == 0) = false := by simp; omega
    rw [e] at this
    simpa using this
  · intro h j hj
    rw [List.mem_range] at hj
    by_cases e : j = 0
    · simp [e]
    · have := h j (by omega) hj
      simp only [Bool.or_eq_true, Bool.not_eq_true', this, or_true]

/-! ### how often each index occurs -/

def cnt (zs : List Int) (n : Nat) : List Int := (List.range n).map fun x : Nat => ((zs.count (x : Int) : Nat) : Int)

theorem cnt_length (zs : List Int) (n : Nat) : (cnt zs n).length = n := by simp [cnt]

theorem cnt_getD (zs : List Int) (n x : Nat) (h : x < n) : (cnt zs n).getD x 0 = ((zs.count (x : Int) : Nat) : Int) := by
  simp [cnt, List.getD, h]

theorem cnt_perm {xs ys : List Int} (h : xs.Perm ys) (n : Nat) : cnt xs n = cnt ys n := by
  unfold cnt
  apply List.map_congr_left
  intro x _
  rw [h.count_eq]

theorem cnt_nil (n : Nat) : cnt [] n = List.replicate n 0 := by
  apply List.ext_getElem (by simp [cnt])
  intro i h1 h2
  simp [cnt]

theorem cnt_cons (zs : List Int) (n x : Nat) (hx : x < n) : cnt ((x : Int) :: zs) n = (cnt zs n).set x ((cnt zs n).getD x 0 + 1) := by
  rw [cnt_getD zs n x hx]
  apply List.ext_getElem (by simp [cnt])
  intro i h1 h2
  rw [List.getElem_set]
  simp only [cnt, List.getElem_map, List.getElem_range, List.count_cons]
  by_cases e : x = i
  · subst e
    simp
  · have : ((x : Int) == (i : Int)) = false := by simp; omega
    simp [this, e]

theorem cnt_snoc (zs : List Int) (n x : Nat) (hx : x < n) : cnt (zs ++ [(x : Int)]) n = (cnt zs n).set x ((cnt zs n).getD x 0 + 1) := by
  rw [← cnt_cons zs n x hx]
  apply cnt_perm
  exact List.perm_append_comm

theorem cnt_le (zs : List Int) (n x : Nat) : 0 ≤ (cnt zs n).getD x 0 ∧ (cnt zs n).getD x 0 ≤ (zs.length : Int) := by
  by_cases h : x < n
  · rw [cnt_getD zs n x h]
    have := List.count_le_length (a := (x : Int)) (l := zs)
    omega
  · have : (cnt zs n).getD x 0 = 0 := by
      rw [List.getD_eq_getElem?_getD, List.getElem?_eq_none (by rw [cnt_length]; omega)]
      rfl
    omega

theorem Try.info23 : (Try.prog.info? 23).map (fun i => (i.zero, i.size, i.bytes)) = some (some (.int .u32 0), 1, 4) := by kernel_rfl
theorem Try.info2 : (Try.prog.info? 2).map (fun i => (i.zero, i.size, i.bytes)) = some (some (.int .i64 0), 1, 8) := by kernel_rfl
theorem Try.info3 : (Try.prog.info? 3).map (fun i => (i.zero, i.size, i.bytes)) = some (some (.int .i64 0), 1, 8) := by kernel_rfl
theorem Try.info21 : (Try.prog.info? 21).map (fun i => (i.zero, i.size, i.bytes)) = some (some (.int .i32 0), 1, 4) := by kernel_rfl
theorem Try.info52 : (Try.prog.info? 52).map (fun i => (i.zero, i.size, i.bytes)) = some (some (.agg #[.int .i64 0, .int .i32 0]), 2, 16) := by kernel_rfl

end Go.Proofs.Qxb6001001a
