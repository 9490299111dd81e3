/-
  append ONTO A SLICE OF BYTES WITHOUT SPARE ROOM, AND ONTO WHAT CAME OF IT. 'AW': what is owned lies in memory that is new since w0; of w0 nothing has turned.
-/
import Derived.Test.Qxb6001291aReads
import Derived.Laws.AppendOwnNone
namespace Go.Proofs.Qxb6001291a
open Go.RowKit
set_option linter.unusedVariables false

def AW (w0 w : World) (v : Value) (n : Nat) (zs : List Int) : Prop := w.ownsRow w0.heap.size 5 1 v n (zs.map (Value.int .u8)) ∧ Below w0.heap.size w0 w

/-- The first append: there is no room, so a new array is made. -/
theorem app_first {ops : Array Oper} {rest : List Oper} {o : Oper} {act : Act} {Q : Exit → Act → World → Prop} (hgd : o.guard = none) (s x : Operand)
    (ho : o.op = .call { callee := .builtin .append, args := #[s, x], argTypes := #[22, 22] }) {w : World} {a : Option Addr} {n : Nat} {zs : List Int} {y : Int}
    (hs : act.eval s = .slice a n n) (hx : act.eval x = .slice (some ⟨w.heap.size, 0, none⟩) 1 1) (h : Rd .u8 w a n zs) (hnone : a = none → n = 0) (hn : n ≤ 4194304)
    (K : ∀ g cap w1, AW w w1 (.slice (some ⟨g, 0, none⟩) (n + 1) cap) (n + 1) (zs ++ [y]) → wpList Try.prog ops Q rest (act.put o.dst (.slice (some ⟨g, 0, none⟩) (n + 1) cap)) w1) :
    wpList Try.prog ops Q (o :: rest) act (w.alloc (.cells #[.int .u8 y] 5)) := by
  obtain ⟨i0, hi, hz0, hz1, hz2⟩ := info_parts Try.info5
  have hb0 : Below w.heap.size w (w.alloc (.cells #[.int .u8 y] 5)) := (Below.refl _ _).alloc (Nat.le_refl _) _
  have h' := h.below hb0
  refine wpList_append_grows _ hgd s x 22 ho 5 i0 (.int .u8 0) 1 1 Try.underlying22 hi hz0 hz1 hz2 rfl (by decide) a n n (zs.map (Value.int .u8)) hs (fun e => ⟨hnone e, hnone e⟩) (by simp [h.1]) ?_ ⟨w.heap.size, 0, none⟩ 1 1 [.int .u8 y] hx rfl (World.news_of_block (heap_alloc_new w _)) (by simp [Value.oneCell']) (by omega) (by unfold maxLen; omega) (by omega) ?_
  · intro ad had j u hu
    have hj : j < n := by
      have := (List.getElem?_eq_some_iff.1 hu).1
      rw [← h.1]; simpa using this
    obtain ⟨b, off, hb, hcell⟩ := h'.at j hj
    rw [had] at hb
    simp only [Option.some.injEq] at hb
    subst hb
    rw [Addr.add_lit, hcell j hj, ← getD_map_int _ _ _ (by rw [h.1]; exact hj)]
    exact hu
  · intro v' w1 hown hgrow
    obtain ⟨g, cap, rfl, _, _⟩ := hown.form (by omega)
    refine K g cap w1 ⟨?_, hb0.grown hgrow (by simp) (by simp)⟩
    have e : (zs ++ [y]).map (Value.int .u8) = zs.map (Value.int .u8) ++ [Value.int .u8 y] := by simp
    rw [e]
    exact owns_mono hown (by simp)

theorem app_one {ops : Array Oper} {rest : List Oper} {o : Oper} {act : Act} {Q : Exit → Act → World → Prop} (hgd : o.guard = none) (s x : Operand)
    (ho : o.op = .call { callee := .builtin .append, args := #[s, x], argTypes := #[22, 22] }) {w0 w : World} {v : Value} {n : Nat} {zs : List Int} {y : Int}
    (hs : act.eval s = v) (hx : act.eval x = .slice (some ⟨w.heap.size, 0, none⟩) 1 1) (h : AW w0 w v n zs) (hn : n ≤ 4194304)
    (K : ∀ g cap w1, AW w0 w1 (.slice (some ⟨g, 0, none⟩) (n + 1) cap) (n + 1) (zs ++ [y]) → wpList Try.prog ops Q rest (act.put o.dst (.slice (some ⟨g, 0, none⟩) (n + 1) cap)) w1) :
    wpList Try.prog ops Q (o :: rest) act (w.alloc (.cells #[.int .u8 y] 5)) := by
  obtain ⟨i0, hi, hz0, hz1, hz2⟩ := info_parts Try.info5
  obtain ⟨h1, h2⟩ := h
  have hsz := h2.size
  refine wpList_append_lies _ hgd s x 22 ho w0.heap.size 5 i0 (.int .u8 0) 1 1 Try.underlying22 hi hz0 hz1 hz2 rfl (by decide) v n _ hs (h1.alloc _) ⟨w.heap.size, 0, none⟩ 1 1 [.int .u8 y] hx rfl (World.news_of_block (heap_alloc_new w _)) (by simp [Value.oneCell']) (by decide) (by unfold maxLen; omega) (by omega) (by simp; omega) (w.heap.size + 1) (by simp) ?_
  intro g cap w1 hown hgrow hlies hlt
  refine K g cap w1 ⟨?_, (h2.alloc hsz _).grown hgrow (by simp; omega) (fun k hk => (h1.lt k hk).1)⟩
  have e : (zs ++ [y]).map (Value.int .u8) = zs.map (Value.int .u8) ++ [Value.int .u8 y] := by simp
  rw [e]
  exact hown

theorem app_many {ops : Array Oper} {rest : List Oper} {o : Oper} {act : Act} {Q : Exit → Act → World → Prop} (hgd : o.guard = none) (s x : Operand)
    (ho : o.op = .call { callee := .builtin .append, args := #[s, x], argTypes := #[22, 22] }) {w0 w : World} {g0 cap0 n : Nat} {zs cs : List Int} {ac : Option Addr} {m cc : Nat}
    (hs : act.eval s = .slice (some ⟨g0, 0, none⟩) n cap0) (hx : act.eval x = .slice ac m cc) (h : AW w0 w (.slice (some ⟨g0, 0, none⟩) n cap0) n zs) (hc : Rd .u8 w ac m cs) (hnone : ac = none → m = 0 ∧ cc = 0) (hn : n + m ≤ 4194304)
    (K : ∀ g cap w1, AW w0 w1 (.slice (some ⟨g, 0, none⟩) (n + m) cap) (n + m) (zs ++ cs) → wpList Try.prog ops Q rest (act.put o.dst (.slice (some ⟨g, 0, none⟩) (n + m) cap)) w1) :
    wpList Try.prog ops Q (o :: rest) act w := by
  obtain ⟨i0, hi, hz0, hz1, hz2⟩ := info_parts Try.info5
  obtain ⟨h1, h2⟩ := h
  have hsz := h2.size
  cases ac with
  | none =>
    obtain ⟨rfl, rfl⟩ := hnone rfl
    have hcs : cs = [] := List.eq_nil_of_length_eq_zero hc.1
    subst hcs
    refine wpList_append_own_none hgd s x 22 ho w0.heap.size 5 i0 1 Try.underlying22 hi _ n _ hs h1 hx ?_
    have := K g0 cap0 w (by simpa using ⟨h1, h2⟩)
    simpa using this
  | some ad =>
    have hnews : ∀ j u, (cs.map (Value.int .u8))[j]? = some u → w.cell? (ad.add j) = some u := by
      intro j u hu
      have hj : j < m := by
        have := (List.getElem?_eq_some_iff.1 hu).1
        rw [← hc.1]; simpa using this
      obtain ⟨b, off, hb, hcell⟩ := hc.at j hj
      simp only [Option.some.injEq] at hb
      subst hb
      rw [Addr.add_lit, hcell j hj, ← getD_map_int _ _ _ (by rw [hc.1]; exact hj)]
      exact hu
    have h1c : ∀ u ∈ cs.map (Value.int .u8), u.oneCell' = true := by
      intro u hu
      obtain ⟨_, _, rfl⟩ := List.mem_map.1 hu
      rfl
    by_cases hm : m = 0
    · subst hm
      have hcs : cs = [] := List.eq_nil_of_length_eq_zero hc.1
      subst hcs
      refine wpList_append_fits w hgd s x 22 ho w0.heap.size 5 i0 1 Try.underlying22 hi hz1 g0 n cap0 _ hs h1 ad 0 cc [] hx rfl (by simp) (by simp) (by have := (cap_of_owns h1).1; omega) ?_
      intro w1 hown hgrow
      exact K g0 cap0 w1 ⟨by simpa using hown, h2.grown hgrow hsz (fun k hk => (h1.lt k hk).1)⟩
    · refine wpList_append_lies w hgd s x 22 ho w0.heap.size 5 i0 (.int .u8 0) 1 1 Try.underlying22 hi hz0 hz1 hz2 rfl (by decide) _ n _ hs h1 ad m cc (cs.map (Value.int .u8)) hx (by simp [hc.1]) hnews h1c (by omega) (by unfold maxLen; omega) (by omega) (by omega) w.heap.size rfl ?_
      intro g cap w1 hown hgrow hlies hlt
      exact K g cap w1 ⟨by rw [List.map_append]; exact hown, h2.grown hgrow hsz (fun k hk => (h1.lt k hk).1)⟩
end Go.Proofs.Qxb6001291a
