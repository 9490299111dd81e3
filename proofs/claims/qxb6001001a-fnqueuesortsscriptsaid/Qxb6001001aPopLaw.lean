/-
  FnPopTakesSoonest (6): the way through, out of the contracts of its callees.
-/
import Derived.Test.Qxb6001001aOuts
namespace Go.Proofs.Qxb6001001a
open Go.RowKit
set_option linter.unusedVariables false

theorem owns_form {w : World} {B : Nat} {e : TypeId} {s : Nat} {a : Option Addr} {n cap : Nat} {xs : List Value} (h : w.ownsRow B e s (.slice a n cap) n xs) (hn : 0 < n) : ∃ g, a = some ⟨g, 0, none⟩ := by
  obtain ⟨g, cap', hv, _⟩ := h.form hn
  simp only [Value.slice.injEq] at hv
  exact ⟨g, hv.1⟩

theorem owns_cell {w : World} {B : Nat} {e : TypeId} {k : IntKind} {g n cap : Nat} {zs : List Int} (h : w.ownsRow B e 1 (.slice (some ⟨g, 0, none⟩) n cap) n (zs.map (Value.int k))) (j : Nat) (hj : j < n) :
    w.cell? ⟨g, j, none⟩ = some (.int k (zs.getD j 0)) := by
  have hl : zs.length = n := by have := h.1; simpa using this
  rw [h.cellAt j (by omega)]; exact getD_map_int _ _ _ (by omega)

/-- 'want' less one d is what is left. -/
theorem cnt_less {zs out : List Int} {n : Nat} {x : Int} (h : (x :: out).Perm zs) (h0 : 0 ≤ x) (h1 : x < (n : Int)) :
    (cnt zs n).set x.toNat ((cnt zs n).getD x.toNat 0 - 1) = cnt out n ∧ 1 ≤ (cnt zs n).getD x.toNat 0 := by
  have e := cnt_cons out n x.toNat (by omega)
  rw [show ((x.toNat : Nat) : Int) = x by omega] at e
  rw [← cnt_perm h n, e]
  have hl : x.toNat < (cnt out n).length := by rw [cnt_length]; omega
  rw [Heap.getD_same _ _ _ hl]
  refine ⟨?_, by have := (cnt_le out n x.toNat).1; omega⟩
  rw [List.set_set, Int.add_sub_cancel]
  apply List.ext_getElem (by simp)
  intro i h3 h4
  rw [List.getElem_set]
  split
  · rename_i h5
    subst h5
    simp [List.getD, h4]
  · rfl

theorem zzpop_len (B gA g l0 cap nA capA : Nat) (zs S N : List Int) (w : World) (hp : 1 ≤ l0)
    (hown : w.ownsRow B 23 1 (.slice (some ⟨g, 0, none⟩) l0 cap) l0 (zs.map (Value.int .u32))) (hat : Ati B w (.slice (some ⟨gA, 0, none⟩) nA capA) nA S N)
    (hne3 : g ≠ gA) (hn : l0 ≤ 1048576) (hnA : nA ≤ 1048576) (hz : ∀ z ∈ zs, 0 ≤ z ∧ z < (nA : Int)) (hheap : Heap.IsHeap (lat S N) zs) :
    Calls Try.prog 21 #[.slice (some ⟨g, 0, none⟩) l0 cap, .slice (some ⟨gA, 0, none⟩) nA capA] w fun e w' => ∃ p out, l0 = p + 1 ∧ e = .returned (.tuple #[.int .u32 (zs.getD 0 0), .slice (some ⟨g, 0, none⟩) p cap]) ∧
      w'.ownsRow B 23 1 (.slice (some ⟨g, 0, none⟩) p cap) p (out.map (Value.int .u32)) ∧ Heap.IsHeap (lat S N) out ∧ (zs.getD 0 0 :: out).Perm zs ∧ w.grownBy w' (some g) := by
  obtain ⟨p, rfl⟩ : ∃ p, l0 = p + 1 := ⟨l0 - 1, by omega⟩
  exact (zzpop_any B gA g p cap nA capA zs S N w hown hat hne3 (by omega) hnA hz hheap).mono fun e w' ⟨out, h1, h2⟩ => ⟨p, out, rfl, h1, h2⟩

set_option maxRecDepth 100000 in
set_option maxHeartbeats 4000000 in
theorem pop_main (a0 a2 a3 : Option Addr) (l0 c0 l2 c2 c3 : Nat) (zs S N : List Int) (w : World)
    (hp : 1 ≤ l0) (h : bytesB l0 l2 l2 = true) (g0 : l0 ≤ 65536) (g1 : l2 ≤ 65536) (g2 : 4 * l0 + 8 * l2 + 4 * l2 ≤ 1048576)
    (h0 : Rd .u32 w a0 l0 zs) (h2 : Rd .i64 w a2 l2 S) (h3 : Rd .i32 w a3 l2 N) (n0 : a0 = none → l0 = 0) (n2 : a2 = none → l2 = 0) (n3 : a3 = none → l2 = 0)
    (hz : ∀ j, j < l0 → 0 ≤ zs.getD j 0 ∧ zs.getD j 0 < (l2 : Int)) (hin : inB zs l2 = true) (hh : heapB (lat S N) zs l0 = true) :
    Calls Try.prog 6 #[.slice a0 l0 c0, .slice a2 l2 c2, .slice a3 l2 c3] w fun e w' => e = .returned (.bool true) ∧ Below w.heap.size w w' := by
  have HB : Hid (∀ w, Calls Try.prog 19 #[.slice a0 l0 c0, .slice a2 l2 c2, .slice a3 l2 c3] w fun e w' => e = .returned (.bool true) ∧ w' = w) := by
    intro w; rw [← h]; exact bytes19_any a0 a2 a3 l0 c0 l2 c2 l2 c3 w
  have HI : Hid (Calls Try.prog 10 #[.slice a0 l0 c0, .int .i64 l2] w fun e w' => e = .returned (.bool true) ∧ w' = w) := by
    show Calls _ _ _ _ _; rw [← hin]; exact inRange_any a0 l0 c0 l2 zs w h0 (by omega) (by omega) (fun j hj => ⟨(hz j hj).1, by have := (hz j hj).2; omega⟩)
  have HH : Hid (Calls Try.prog 11 #[.slice a0 l0 c0, .slice a2 l2 c2, .slice a3 l2 c3] w fun e w' => e = .returned (.bool true) ∧ Below w.heap.size w w') := by
    show Calls _ _ _ _ _; rw [← hh]; exact isHeap_any a0 a2 a3 l0 c0 l2 c2 c3 zs S N w h0 h2 h3 (by omega) (by omega) hz
  have hl0 : Hid (zs.length = l0) := h0.1
  have HP : Hid (Heap.IsHeap (lat S N) zs) := by
    rw [← hl0.out] at hh; exact (heapB_iff _ _).1 hh
  have H0 : Hid (Rd .u32 w a0 l0 zs ∧ Rd .i64 w a2 l2 S ∧ Rd .i32 w a3 l2 N) := ⟨h0, h2, h3⟩
  have HZ : Hid (∀ j, j < l0 → 0 ≤ zs.getD j 0 ∧ zs.getD j 0 < (l2 : Int)) := hz
  have HN : Hid ((a0 = none → l0 = 0) ∧ (a2 = none → l2 = 0) ∧ (a3 = none → l2 = 0)) := ⟨n0, n2, n3⟩
  have nz : ((l0 : Int) == 0) = false := by simp; omega
  clear h h0 h2 h3 hz hin hh n0 n2 n3
  go_enter Try.func6, Try.ntmps6
  go_wp2_with (first | (go_at_call 19; refine (HB.out _).mono ?_; rintro e w' ⟨rfl, rfl⟩) | (go_at_call 10; refine HI.out.mono ?_; rintro e w' ⟨rfl, rfl⟩) | (go_at_call 11; refine HH.out.mono ?_; rintro e w1 ⟨rfl, hb⟩))
  clear HB HI HH
  -- the three copies
  refine (clone_any a0 l0 c0 zs w1 (H0.out.1.below hb) (by omega) HN.out.1).mono ?_
  rintro e w2 ⟨aq, cq, rfl, oq, hb2⟩
  go_wp2_with fail
  refine (clone64_any a2 l2 c2 S w2 (H0.out.2.1.below (hb.trans (hb2.mono hb.size))) (by omega) HN.out.2.1).mono ?_
  rintro e w3 ⟨aS, cS, rfl, oS, hb3⟩
  go_wp2_with fail
  have hb13 : Hid (Below w'.heap.size w' w3) := (hb.trans (hb2.mono hb.size)).trans (hb3.mono (Nat.le_trans hb.size hb2.size))
  refine (clone32_any a3 l2 c3 N w3 (H0.out.2.2.below hb13.out) (by omega) HN.out.2.2).mono ?_
  rintro e w4 ⟨aN, cN, rfl, oN, hb4⟩
  have hz0 := HZ.out 0 (by omega)
  obtain ⟨z0a, z0b⟩ := hz0
  obtain ⟨gq, rfl⟩ := owns_form oq (by omega)
  obtain ⟨gS, rfl⟩ := owns_form oS (by omega)
  obtain ⟨gN, rfl⟩ := owns_form oN (by omega)
  go_wp2_with fail
  -- how often each index occurs
  have oq4 : Hid (w4.ownsRow w1.heap.size 23 1 (.slice (some ⟨gq, 0, none⟩) l0 cq) l0 (zs.map (Value.int .u32))) := owns_below (owns_below oq hb3) hb4
  have oS4 : Hid (w4.ownsRow w2.heap.size 2 1 (.slice (some ⟨gS, 0, none⟩) l2 cS) l2 (S.map (Value.int .i64))) := owns_below oS hb4
  have oN4 : Hid (w4.ownsRow w3.heap.size 21 1 (.slice (some ⟨gN, 0, none⟩) l2 cN) l2 (N.map (Value.int .i32))) := oN
  have hb14 : Hid (Below w'.heap.size w' w4) := hb13.out.trans (hb4.mono hb13.out.size)
  have kq := (oq.lt gq rfl)
  have kS := (oS.lt gS rfl)
  have kN := (oN.lt gN rfl)
  have sz1 : w1.heap.size ≤ w2.heap.size := hb2.size
  have sz2 : w2.heap.size ≤ w3.heap.size := hb3.size
  have sz3 : w3.heap.size ≤ w4.heap.size := hb4.size
  have sz0 : w'.heap.size ≤ w1.heap.size := hb.size
  clear oq oS oN hb hb2 hb3 hb4 hb13 H0 HN
  refine (count_any _ l0 cq l2 zs w4 (rd_of_owns oq4.out) (by omega) (by omega) HZ.out).mono ?_
  rintro e w5 ⟨rfl, oW, hb5⟩
  have sz4 : w4.heap.size ≤ w5.heap.size := hb5.size
  have O5 : Hid (w5.ownsRow w1.heap.size 23 1 (.slice (some ⟨gq, 0, none⟩) l0 cq) l0 (zs.map (Value.int .u32)) ∧ w5.ownsRow w2.heap.size 2 1 (.slice (some ⟨gS, 0, none⟩) l2 cS) l2 (S.map (Value.int .i64)) ∧
      w5.ownsRow w3.heap.size 21 1 (.slice (some ⟨gN, 0, none⟩) l2 cN) l2 (N.map (Value.int .i32)) ∧ w5.ownsRow w4.heap.size 3 1 (.slice (some ⟨w4.heap.size, 0, none⟩) l2 l2) l2 ((cnt zs l2).map (Value.int .i64)) ∧ Below w'.heap.size w' w5) :=
    ⟨owns_below oq4.out hb5, owns_below oS4.out hb5, owns_below oN4.out hb5, oW, hb14.out.trans (hb5.mono hb14.out.size)⟩
  clear oW hb5 oq4 oS4 oN4 hb14
  -- the soonest of all, as the law computes it
  have HM : Hid (∀ j, j < l0 → lat S N (zs.getD 0 0) (zs.getD j 0) = false) := fun j hj => Heap.heap_min_all (lat_order S N) HP.out _ (Heap.getD_mem zs j (by rw [hl0.out]; exact hj))
  have C0 := owns_cell O5.out.1 0 (by omega)
  have CS := owns_cell O5.out.2.1 (zs.getD 0 0).toNat (by omega)
  have CN := owns_cell O5.out.2.2.1 (zs.getD 0 0).toNat (by omega)
  have HD : Hid (∃ z0 s0 t0, z0 = zs.getD 0 0 ∧ s0 = S.getD z0.toNat 0 ∧ t0 = N.getD z0.toNat 0) := ⟨_, _, _, rfl, rfl, rfl⟩
  generalize hz0 : zs.getD 0 0 = z0 at *
  generalize hs0 : S.getD z0.toNat 0 = s0 at *
  generalize ht0 : N.getD z0.toNat 0 = t0 at *
  have HE : Hid (zs.getD 0 0 = z0 ∧ S.getD z0.toNat 0 = s0 ∧ N.getD z0.toNat 0 = t0) := ⟨hz0, hs0, ht0⟩
  clear hz0 hs0 ht0 HD
  go_wp2_with fail
  go_loopw [9, 10, 11] (fun ms mn i wr => ∃ m : Nat, m + 1 ≤ l0 ∧ ms = .int .i64 s0 ∧ mn = .int .i32 t0 ∧ i = .int .i64 ((m : Int) + 1) ∧ Hid (Below w5.heap.size w5 wr)) (fun _ _ i _ => l0 - (intOf i).toNat)
  case atStart => exact ⟨0, hp, rfl, rfl, rfl, Below.refl _ _⟩
  case round =>
    obtain ⟨m, hm, rfl, rfl, rfl, HBr⟩ := hrel
    clear C0 CS CN
    by_cases hlt : m + 1 < l0
    · obtain ⟨za, zb⟩ := HZ.out (m + 1) hlt
      have D0 := cell_later HBr.out (owns_cell O5.out.1 (m + 1) hlt)
      have DS' := cell_later HBr.out (owns_cell O5.out.2.1 (zs.getD (m + 1) 0).toNat (by omega))
      have DN := cell_later HBr.out (owns_cell O5.out.2.2.1 (zs.getD (m + 1) 0).toNat (by omega))
      have HA := HM.out (m + 1) hlt
      unfold lat at HA
      rw [HE.out.2.1, HE.out.2.2] at HA
      generalize zs.getD (m + 1) 0 = zi at *
      generalize S.getD zi.toNat 0 = si at *
      generalize N.getD zi.toNat 0 = ti at *
      have HC : Hid (∀ w : World, Calls Try.prog 20 #[.int .i64 s0, .int .i32 t0, .int .i64 si, .int .i32 ti] w fun e w' => e = .returned (.bool false) ∧ w' = w) := by
        intro w; rw [← HA]; exact zzAfter_any s0 t0 si ti w
      clear HA
      have q0 : (0 : Int) ≤ (m : Int) + 1 := by omega
      have q1 : (m : Int) + 1 < (l0 : Int) := by omega
      have q2 : ((m : Int) + 1).toNat = m + 1 := by omega
      go_wp2
      go_quiet ((go_at_call 20; exact Calls.quiet_of_same (HC.out _)))
      go_wp2
      go_roundw
      case rel => exact ⟨m + 1, by omega, rfl, rfl, by go_num, below_drewN HBr.out _⟩
      case measure => simp [intOf]; omega
    · have hge : ¬ (m : Int) + 1 < (l0 : Int) := by omega
      go_wp2_with fail
      have szr : w5.heap.size ≤ wr.heap.size := HBr.out.size
      have b6 : Below w'.heap.size w' wr := O5.out.2.2.2.2.trans (HBr.out.mono O5.out.2.2.2.2.size)
      have oS6 := owns_below O5.out.2.1 HBr.out
      have oN6 := owns_below O5.out.2.2.1 HBr.out
      -- the deadlines
      refine (inst_any _ _ l2 cS cN S N wr (rd_of_owns oS6) (rd_of_owns oN6) (by omega)).mono ?_
      rintro e w7 ⟨rfl, at7, hb7⟩
      have sz7 : wr.heap.size ≤ w7.heap.size := hb7.size
      have O7 : Hid (w7.ownsRow w1.heap.size 23 1 (.slice (some ⟨gq, 0, none⟩) l0 cq) l0 (zs.map (Value.int .u32)) ∧ w7.ownsRow w2.heap.size 2 1 (.slice (some ⟨gS, 0, none⟩) l2 cS) l2 (S.map (Value.int .i64)) ∧
          w7.ownsRow w3.heap.size 21 1 (.slice (some ⟨gN, 0, none⟩) l2 cN) l2 (N.map (Value.int .i32)) ∧ w7.ownsRow w4.heap.size 3 1 (.slice (some ⟨w4.heap.size, 0, none⟩) l2 l2) l2 ((cnt zs l2).map (Value.int .i64)) ∧
          Ati wr.heap.size w7 (.slice (some ⟨wr.heap.size, 0, none⟩) l2 l2) l2 S N ∧ Below w'.heap.size w' w7) :=
        ⟨owns_below (owns_below O5.out.1 HBr.out) hb7, owns_below oS6 hb7, owns_below oN6 hb7, owns_below (owns_below O5.out.2.2.2.1 HBr.out) hb7, at7, b6.trans (hb7.mono b6.size)⟩
      clear b6 oS6 oN6 at7 hb7 O5 HBr
      go_wp2_with fail
      -- the pop
      have HZM : Hid (∀ z ∈ zs, 0 ≤ z ∧ z < (l2 : Int)) := mem_range (by rw [hl0.out]; exact HZ.out)
      have HPC := zzpop_len w1.heap.size wr.heap.size gq l0 cq l2 l2 zs S N w7 hp O7.out.1 (O7.out.2.2.2.2.1.mono (by omega)) (by omega) (by omega) (by omega) HZM.out HP.out
      rw [HE.out.1] at HPC
      refine HPC.mono ?_
      rintro e w8 ⟨p, out, hlp, rfl, o8, hh8, hp8, gr8⟩
      clear HPC
      have hpl : (l0 : Int) - 1 = (p : Int) := by omega
      have HLP : Hid (l0 = p + 1) := hlp
      have ep : p ≤ 65536 := by omega
      clear hlp
      obtain ⟨hc1, hc2⟩ := cnt_less (n := l2) hp8 z0a z0b
      have hc3 := (cnt_le zs l2 z0.toNat).2
      have hc4 : (cnt zs l2).getD z0.toNat 0 ≤ 65536 := by have := hl0.out; omega
      have O8 : Hid (w8.ownsRow w2.heap.size 2 1 (.slice (some ⟨gS, 0, none⟩) l2 cS) l2 (S.map (Value.int .i64)) ∧ w8.ownsRow w3.heap.size 21 1 (.slice (some ⟨gN, 0, none⟩) l2 cN) l2 (N.map (Value.int .i32)) ∧
          w8.ownsRow w4.heap.size 3 1 (.slice (some ⟨w4.heap.size, 0, none⟩) l2 l2) l2 ((cnt zs l2).map (Value.int .i64)) ∧ w8.ownsRow w1.heap.size 23 1 (.slice (some ⟨gq, 0, none⟩) p cq) p (out.map (Value.int .u32)) ∧ Below w'.heap.size w' w8) := by
        have ne : ∀ g, g ≠ gq → ((Value.slice (some ⟨g, 0, none⟩) l2 cS).ownBlock = none ∨ (Value.slice (some ⟨g, 0, none⟩) l2 cS).ownBlock ≠ some gq) := fun g hg => Or.inr (by simpa [Value.ownBlock] using hg)
        exact ⟨O7.out.2.1.kept gr8 (Or.inr (by simp [Value.ownBlock]; omega)), O7.out.2.2.1.kept gr8 (Or.inr (by simp [Value.ownBlock]; omega)), O7.out.2.2.2.1.kept gr8 (Or.inr (by simp [Value.ownBlock]; omega)), o8, O7.out.2.2.2.2.2.grown gr8 (by omega) (fun k hk => by simp only [Option.some.injEq] at hk; omega)⟩
      have CW := owns_cell O8.out.2.2.1 z0.toNat (by omega)
      have CS := owns_cell O8.out.1 z0.toNat (by omega)
      have CN := owns_cell O8.out.2.1 z0.toNat (by omega)
      rw [HE.out.2.1] at CS
      rw [HE.out.2.2] at CN
      have HCL : Hid ((cnt zs l2).set z0.toNat ((cnt zs l2).getD z0.toNat 0 - 1) = cnt out l2) := hc1
      have FW := O8.out.2.2.1.frozenAt z0.toNat
      clear hc1 hc3
      generalize hxx : (cnt zs l2).getD z0.toNat 0 = x at *
      have XEQ : Hid ((cnt zs l2).getD z0.toNat 0 = x) := hxx
      clear hxx
      have x0 : (x == 0) = false := by simp; omega
      have HOM : Hid (∀ z ∈ out, 0 ≤ z ∧ z < (l2 : Int)) := fun z hz => HZM.out z (hp8.mem_iff.1 (List.mem_cons_of_mem _ hz))
      have HL : Hid (out.length = p) := by show _ = _; have := o8.1; simpa using this
      have HHP : Hid (Heap.IsHeap (lat S N) out) := hh8
      have HCA : Hid (∀ w : World, Calls Try.prog 20 #[.int .i64 s0, .int .i32 t0, .int .i64 s0, .int .i32 t0] w fun e w' => e = .returned (.bool false) ∧ w' = w) := by
        have : aftB s0 t0 s0 t0 = false := by rw [aftB_false]; omega
        intro w; rw [← this]; exact zzAfter_any s0 t0 s0 t0 w
      clear o8 hh8 hp8 gr8 O7 HZM HP HM
      go_wp2
      go_quiet ((go_at_call 20; exact Calls.quiet_of_same (HCA.out _)))
      go_wp2_with fail
      have hb9 : Below w8.heap.size w8 (w8.drewN nq) := below_drewN (Below.refl _ _) _
      generalize hw9 : w8.drewN nq = w9 at hb9 ⊢
      have O9 : Hid (w9.ownsRow w2.heap.size 2 1 (.slice (some ⟨gS, 0, none⟩) l2 cS) l2 (S.map (Value.int .i64)) ∧ w9.ownsRow w3.heap.size 21 1 (.slice (some ⟨gN, 0, none⟩) l2 cN) l2 (N.map (Value.int .i32)) ∧
          w9.ownsRow w4.heap.size 3 1 (.slice (some ⟨w4.heap.size, 0, none⟩) l2 l2) l2 ((cnt zs l2).map (Value.int .i64)) ∧ w9.ownsRow w1.heap.size 23 1 (.slice (some ⟨gq, 0, none⟩) p cq) p (out.map (Value.int .u32)) ∧ Below w'.heap.size w' w9) :=
        ⟨owns_below O8.out.1 hb9, owns_below O8.out.2.1 hb9, owns_below O8.out.2.2.1 hb9, owns_below O8.out.2.2.2.1 hb9, O8.out.2.2.2.2.trans (hb9.mono O8.out.2.2.2.2.size)⟩
      clear hb9 hw9 O8 CS CN CW FW HCA
      have HI : Hid (Calls Try.prog 10 #[.slice (some ⟨gq, 0, none⟩) p cq, .int .i64 l2] w9 fun e w' => e = .returned (.bool true) ∧ w' = w9) := by
        show Calls _ _ _ _ _
        rw [← (inB_iff out l2).2 (fun z hz => (HOM.out z hz).2)]
        exact inRange_any _ _ _ _ out w9 (rd_of_owns O9.out.2.2.2.1) (by omega) (by omega) (fun j hj => by have := range_mem HOM.out j (by rw [HL.out]; exact hj); omega)
      have HH : Hid (Calls Try.prog 11 #[.slice (some ⟨gq, 0, none⟩) p cq, .slice (some ⟨gS, 0, none⟩) l2 cS, .slice (some ⟨gN, 0, none⟩) l2 cN] w9 fun e w' => e = .returned (.bool true) ∧ Below w9.heap.size w9 w') := by
        show Calls _ _ _ _ _
        have e1 := (heapB_iff _ _).2 HHP.out
        rw [HL.out] at e1
        rw [← e1]
        exact isHeap_any _ _ _ _ _ _ _ _ out S N w9 (rd_of_owns O9.out.2.2.2.1) (rd_of_owns O9.out.1) (rd_of_owns O9.out.2.1) (by omega) (by omega) (fun j hj => range_mem HOM.out j (by rw [HL.out]; exact hj))
      refine HI.out.mono ?_
      rintro e w9' ⟨rfl, rfl⟩
      go_wp2_with fail
      refine HH.out.mono ?_
      rintro e w10 ⟨rfl, hb10⟩
      have O10 : Hid (w10.ownsRow w4.heap.size 3 1 (.slice (some ⟨w4.heap.size, 0, none⟩) l2 l2) l2 ((cnt zs l2).map (Value.int .i64)) ∧ w10.ownsRow w1.heap.size 23 1 (.slice (some ⟨gq, 0, none⟩) p cq) p (out.map (Value.int .u32)) ∧ Below w'.heap.size w' w10) :=
        ⟨owns_below O9.out.2.2.1 hb10, owns_below O9.out.2.2.2.1 hb10, O9.out.2.2.2.2.trans (hb10.mono O9.out.2.2.2.2.size)⟩
      clear hb10 HI HH O9
      have CW0 := owns_cell O10.out.1 z0.toNat (by omega)
      have FW := O10.out.1.frozenAt z0.toNat
      have hx' : (cnt zs l2).getD z0.toNat 0 = x := XEQ.out
      rw [hx'] at CW0
      clear hx'
      go_wp2_with fail
      obtain ⟨w11, hw11⟩ : ∃ w11, w11 = w10.setCell ⟨w4.heap.size, z0.toNat, none⟩ (.int .i64 (x - 1)) := ⟨_, rfl⟩
      rw [← hw11]
      have F11 : Fr (fun k => k = w4.heap.size) w10 w11 := by rw [hw11]; exact (Fr.refl (fun k => k = w4.heap.size) w10).setCell (p := ⟨w4.heap.size, z0.toNat, none⟩) (Or.inl rfl) _
      have O11 : Hid (w11.ownsRow w4.heap.size 3 1 (.slice (some ⟨w4.heap.size, 0, none⟩) l2 l2) l2 ((cnt out l2).map (Value.int .i64)) ∧ w11.ownsRow w1.heap.size 23 1 (.slice (some ⟨gq, 0, none⟩) p cq) p (out.map (Value.int .u32)) ∧ Below w'.heap.size w' w11) := by
        refine ⟨?_, owns_fr O10.out.2.1 F11 (fun k hk => by simp only [Value.ownBlock, Option.some.injEq] at hk; omega), ?_⟩
        · have := (O10.out.1.stored z0.toNat (.int .i64 (x - 1))).1
          rw [← List.map_set, HCL.out, ← hw11] at this
          exact this
        · rw [hw11]; exact O10.out.2.2.setCell (by show _ ≤ w4.heap.size; omega) _
      clear F11 hw11 O10 CW0 FW HCL XEQ
      refine (count_any _ p cq l2 out w11 (rd_of_owns O11.out.2.1) (by omega) (by omega) (fun j hj => range_mem HOM.out j (by rw [HL.out]; exact hj))).mono ?_
      rintro e w12 ⟨rfl, o12, hb12⟩
      have O12 : Hid (w12.ownsRow w4.heap.size 3 1 (.slice (some ⟨w4.heap.size, 0, none⟩) l2 l2) l2 ((cnt out l2).map (Value.int .i64)) ∧ w12.ownsRow w11.heap.size 3 1 (.slice (some ⟨w11.heap.size, 0, none⟩) l2 l2) l2 ((cnt out l2).map (Value.int .i64)) ∧ Below w'.heap.size w' w12) :=
        ⟨owns_below O11.out.1 hb12, o12, O11.out.2.2.trans (hb12.mono O11.out.2.2.size)⟩
      clear o12 hb12 O11
      go_wp2_with fail
      refine (same_any _ _ l2 l2 l2 (cnt out l2) w12 (rd_of_owns O12.out.1) (rd_of_owns O12.out.2.1) (by omega)).mono ?_
      rintro e w13 ⟨rfl, hb13⟩
      have B13 : Hid (Below w'.heap.size w' w13) := O12.out.2.2.trans (hb13.mono O12.out.2.2.size)
      clear hb13
      go_wp2
      go_ret
      exact ⟨rfl, B13.out⟩
end Go.Proofs.Qxb6001001a
