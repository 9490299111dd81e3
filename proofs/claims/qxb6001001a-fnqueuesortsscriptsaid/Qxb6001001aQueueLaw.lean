/-
  FnQueueSortsScript (7): the way through, out of the contracts of its callees.
-/
import Derived.Test.Qxb6001001aQueueState
namespace Go.Proofs.Qxb6001001a
open Go.RowKit
set_option linter.unusedVariables false

set_option maxRecDepth 100000 in
set_option maxHeartbeats 4000000 in
theorem queue_main (a0 a2 a3 : Option Addr) (l0 c0 l2 c2 c3 : Nat) (zs S N : List Int) (w : World)
    (h : bytesB l0 l2 l2 = true) (g0 : l0 ≤ 65536) (g1 : l2 ≤ 65536) (g2 : 4 * l0 + 8 * l2 + 4 * l2 ≤ 1048576)
    (h0 : Rd .u32 w a0 l0 zs) (h2 : Rd .i64 w a2 l2 S) (h3 : Rd .i32 w a3 l2 N) (n0 : a0 = none → l0 = 0) (n2 : a2 = none → l2 = 0) (n3 : a3 = none → l2 = 0)
    (hz : ∀ j, j < l0 → 0 ≤ zs.getD j 0 ∧ zs.getD j 0 < (l2 : Int)) (hin : inB zs l2 = true) :
    Calls Try.prog 7 #[.slice a0 l0 c0, .slice a2 l2 c2, .slice a3 l2 c3] w fun e w' => e = .returned (.bool true) ∧ Below w.heap.size w w' := by
  have HB : Hid (∀ w, Calls Try.prog 22 #[.slice a0 l0 c0, .slice a2 l2 c2, .slice a3 l2 c3] w fun e w' => e = .returned (.bool true) ∧ w' = w) := by
    intro w; rw [← h]; exact bytes22_any a0 a2 a3 l0 c0 l2 c2 l2 c3 w
  have HI : Hid (Calls Try.prog 10 #[.slice a0 l0 c0, .int .i64 l2] w fun e w' => e = .returned (.bool true) ∧ w' = w) := by
    show Calls _ _ _ _ _; rw [← hin]; exact inRange_any a0 l0 c0 l2 zs w h0 (by omega) (by omega) (fun j hj => ⟨(hz j hj).1, by have := (hz j hj).2; omega⟩)
  have hl0 : Hid (zs.length = l0) := h0.1
  have H0 : Hid (Rd .u32 w a0 l0 zs ∧ Rd .i64 w a2 l2 S ∧ Rd .i32 w a3 l2 N) := ⟨h0, h2, h3⟩
  have HZ : Hid (∀ j, j < l0 → 0 ≤ zs.getD j 0 ∧ zs.getD j 0 < (l2 : Int)) := hz
  have HN : Hid ((a0 = none → l0 = 0) ∧ (a2 = none → l2 = 0) ∧ (a3 = none → l2 = 0)) := ⟨n0, n2, n3⟩
  have HZM : Hid (∀ z ∈ zs, 0 ≤ z ∧ z < (l2 : Int)) := mem_range (by rw [hl0.out]; exact hz)
  obtain ⟨i0, hi, hz0, hz1, hz2⟩ := info_parts Try.info3
  have HINF : Hid (Try.prog.info? 3 = some i0 ∧ i0.zero = some (.int .i64 0) ∧ i0.size = 1 ∧ i0.bytes = 8) := ⟨hi, hz0, hz1, hz2⟩
  clear h h0 h2 h3 hz hin n0 n2 n3 hi hz0 hz1 hz2
  go_enter Try.func7, Try.ntmps7
  go_wp2_with (first | (go_at_call 22; refine (HB.out _).mono ?_; rintro e w' ⟨rfl, rfl⟩) | (go_at_call 10; refine HI.out.mono ?_; rintro e w1 ⟨rfl, rfl⟩))
  clear HB HI
  -- the three copies
  refine (clone_any a0 l0 c0 zs w1 H0.out.1 (by omega) HN.out.1).mono ?_
  rintro e w2 ⟨aq, cq, rfl, oq, hb2⟩
  go_wp2_with fail
  refine (clone64_any a2 l2 c2 S w2 (H0.out.2.1.below hb2) (by omega) HN.out.2.1).mono ?_
  rintro e w3 ⟨aS, cS, rfl, oS, hb3⟩
  go_wp2_with fail
  have hb13 : Hid (Below w1.heap.size w1 w3) := hb2.trans (hb3.mono hb2.size)
  refine (clone32_any a3 l2 c3 N w3 (H0.out.2.2.below hb13.out) (by omega) HN.out.2.2).mono ?_
  rintro e w4 ⟨aN, cN, rfl, oN, hb4⟩
  go_wp2_with fail
  have sz1 : w1.heap.size ≤ w2.heap.size := hb2.size
  have sz2 : w2.heap.size ≤ w3.heap.size := hb3.size
  have sz3 : w3.heap.size ≤ w4.heap.size := hb4.size
  have oq4 := owns_below (owns_below oq hb3) hb4
  have oS4 := owns_below oS hb4
  have b4 : Below w1.heap.size w1 w4 := hb13.out.trans (hb4.mono hb13.out.size)
  -- the deadlines
  refine (inst_any aS aN l2 cS cN S N w4 (rd_of_owns oS4) (rd_of_owns oN) (by omega)).mono ?_
  rintro e w5 ⟨rfl, at5, hb5⟩
  have sz4 : w4.heap.size ≤ w5.heap.size := hb5.size
  have O5 : Hid (w5.ownsRow w1.heap.size 23 1 (.slice aq l0 cq) l0 (zs.map (Value.int .u32)) ∧ w5.ownsRow w2.heap.size 2 1 (.slice aS l2 cS) l2 (S.map (Value.int .i64)) ∧ w5.ownsRow w3.heap.size 21 1 (.slice aN l2 cN) l2 (N.map (Value.int .i32)) ∧
      Ati 0 w5 (.slice (some ⟨w4.heap.size, 0, none⟩) l2 l2) l2 S N ∧ Below w1.heap.size w1 w5) :=
    ⟨owns_below oq4 hb5, owns_below oS4 hb5, owns_below oN hb5, at5.mono (Nat.zero_le _), b4.trans (hb5.mono b4.size)⟩
  have hA5 : w4.heap.size < w5.heap.size := by obtain ⟨ys, y1, _⟩ := at5; exact (y1.lt w4.heap.size rfl).2
  clear oq oS oN hb2 hb3 hb4 hb5 hb13 oq4 oS4 b4 at5 H0 HN
  go_wp2_with fail
  -- pushing
  go_loopw [9, 10] (fun q i wr => ∃ (k : Nat) (a : Option Addr) (cap : Nat) (hs : List Int), k ≤ l0 ∧ q = .slice a k cap ∧ i = .int .i64 k ∧ Hid (LS w5.heap.size S N zs w5 wr a k cap hs)) (fun _ i _ => l0 - (intOf i).toNat)
  case atStart => exact ⟨0, none, 0, [], Nat.zero_le _, rfl, rfl, ls_start _ _ _ _ _⟩
  case round =>
    obtain ⟨k, a, cap, hs, hk, rfl, rfl, HLS⟩ := hrel
    have hbr : Below w5.heap.size w5 wr := HLS.out.2.2.2
    have szr : w5.heap.size ≤ wr.heap.size := hbr.size
    by_cases hlt : k < l0
    · obtain ⟨gq, rfl⟩ := owns_form O5.out.1 (by omega)
      have C0 := cell_later hbr (owns_cell O5.out.1 k hlt)
      obtain ⟨za, zb⟩ := HZ.out k hlt
      have HPC := zzpush_any 0 a w4.heap.size k cap l2 l2 hs S N (zs.getD k 0) wr (owns_mono HLS.out.1 (Nat.zero_le _)) (O5.out.2.2.2.1.below hbr) (fun e => by have := (HLS.out.1.lt _ e).1; omega) (Nat.zero_le _) (by omega) (by omega)
        (fun z hz => HZM.out z (List.mem_of_mem_take (HLS.out.2.2.1.mem_iff.1 hz))) za zb HLS.out.2.1
      generalize hzz : zs.getD k 0 = zk at *
      have HZK : Hid (zs.getD k 0 = zk) := hzz
      clear hzz hbr
      go_wp2_with fail
      refine HPC.mono ?_
      rintro e w6 ⟨g, cap', out, rfl, o6, hh6, hp6, hg6, gr6⟩
      have HLS' : Hid (LS w5.heap.size S N zs w5 w6 (some ⟨g, 0, none⟩) (k + 1) cap' out) := ls_step HLS.out szr (by rw [hl0.out]; exact hlt) HZK.out o6 hh6 hp6 hg6 gr6
      clear o6 hh6 hp6 hg6 gr6 HPC C0
      go_wp2
      go_roundw
      case rel => exact ⟨k + 1, some ⟨g, 0, none⟩, cap', out, by omega, rfl, by go_num, HLS'⟩
      case measure => simp [intOf]; omega
    · obtain rfl : l0 = k := by omega
      clear hk hlt
      obtain ⟨wo, rfl⟩ : ∃ wo : World, wo = wr := ⟨_, rfl⟩
      go_wp2_with fail
      have hs5 : Hid (hs.Perm zs) := by have := HLS.out.2.2.1; rwa [List.take_of_length_le (by rw [hl0.out]; exact Nat.le_refl _)] at this
      have QLT : Hid (∀ k, (Value.slice a 0 0).ownBlock = some k → w5.heap.size ≤ k ∧ k < wo.heap.size) := fun k hk => HLS.out.1.lt k (by rw [blk_eq]; exact hk)
      -- how often each index occurs in the script
      refine (count_any _ l0 cq l2 zs wo ((rd_of_owns O5.out.1).below hbr) (by omega) (by omega) HZ.out).mono ?_
      rintro e w7 ⟨rfl, oW, hb7⟩
      have OW : Hid (w7.ownsRow wo.heap.size 3 1 (.slice (some ⟨wo.heap.size, 0, none⟩) l2 l2) l2 ((cnt zs l2).map (Value.int .i64))) := oW
      have HB7 : Hid (Below wo.heap.size wo w7) := hb7
      have sz7 : wo.heap.size < w7.heap.size := (oW.lt wo.heap.size rfl).2
      clear oW hb7 hbr
      go_wp2_with (at_make; refine wpList_make_full _ rfl _ _ 37 rfl w7.heap.size 3 i0 (.int .i64 0) 1 Try.underlying37 HINF.out.1 HINF.out.2.1 HINF.out.2.2.1 _ _ _ _ l2 rfl rfl rfl rfl (by rw [HINF.out.2.2.2]; omega) (by unfold maxLen; omega) (Nat.le_refl _) ?_; intro w8 hown hgrow)
      have HO : Hid (w8.ownsRow w7.heap.size 3 1 (.slice (some ⟨w7.heap.size, 0, none⟩) l2 l2) l2 ((cnt [] l2).map (Value.int .i64))) := by
        have e : (madeCells (Value.int .i64 0).cells (l2 * 1)).toList = (cnt [] l2).map (Value.int .i64) := by
          rw [show (Value.int .i64 0).cells = #[Value.int .i64 0] from rfl, toList_madeCells_one, cnt_nil]; simp
        rw [e] at hown
        exact hown
      have hb8 : Below w7.heap.size w7 w8 := (Below.refl _ _).grown hgrow (Nat.le_refl _) (by simp)
      have sz8 : w7.heap.size ≤ w8.heap.size := hb8.size
      have bb : Below w5.heap.size w5 w8 := (HLS.out.2.2.2.trans (HB7.out.mono szr)).trans (hb8.mono (by omega))
      have O8 : Hid (w8.ownsRow w2.heap.size 2 1 (.slice aS l2 cS) l2 (S.map (Value.int .i64)) ∧ w8.ownsRow w3.heap.size 21 1 (.slice aN l2 cN) l2 (N.map (Value.int .i32)) ∧
          Ati 0 w8 (.slice (some ⟨w4.heap.size, 0, none⟩) l2 l2) l2 S N ∧ w8.ownsRow wo.heap.size 3 1 (.slice (some ⟨wo.heap.size, 0, none⟩) l2 l2) l2 ((cnt zs l2).map (Value.int .i64)) ∧ Below w1.heap.size w1 w8) :=
        ⟨owns_below O5.out.2.1 bb, owns_below O5.out.2.2.1 bb, O5.out.2.2.2.1.below bb, owns_below OW.out hb8, O5.out.2.2.2.2.trans (bb.mono O5.out.2.2.2.2.size)⟩
      have BLK : Hid ((∀ k, (Value.slice aS l2 cS).ownBlock = some k → w1.heap.size ≤ k ∧ k < w5.heap.size) ∧ (∀ k, (Value.slice aN l2 cN).ownBlock = some k → w1.heap.size ≤ k ∧ k < w5.heap.size)) :=
        ⟨fun k hk => ⟨by have := (O5.out.2.1.lt k hk).1; omega, (O5.out.2.1.lt k hk).2⟩, fun k hk => ⟨by have := (O5.out.2.2.1.lt k hk).1; omega, (O5.out.2.2.1.lt k hk).2⟩⟩
      have Q0 : Hid (QS w5.heap.size a cap w7.heap.size l2 S N zs w8 w8 l0 hs []) :=
        ⟨owns_below (owns_below HLS.out.1 HB7.out) hb8, HLS.out.2.1, hs5.out, HO.out, Fr.refl _ _⟩
      have sz15 : w1.heap.size ≤ w5.heap.size := by omega
      clear hown hgrow hb8 bb HO HB7 OW O5 HLS hs5
      go_wp2_with fail
      -- popping
      go_loopw [9, 13, 14] (fun q pv i wq => ∃ (k r : Nat) (hs done : List Int) (v : Int), k ≤ l0 ∧ Hid (k + r = l0) ∧ r ≤ l0 ∧ q = .slice a r cap ∧ pv = .int .u32 v ∧ i = .int .i64 k ∧ Hid (QS w5.heap.size a cap w7.heap.size l2 S N zs w8 wq r hs done ∧ done.length = k ∧ (1 ≤ k → 0 ≤ v ∧ v < (l2 : Int) ∧ ∀ x ∈ hs, lat S N v x = false))) (fun _ _ i _ => l0 - (intOf i).toNat)
      case atStart => exact ⟨0, l0, hs, [], 0, Nat.zero_le _, Nat.zero_add _, Nat.le_refl _, rfl, rfl, rfl, Q0.out, rfl, fun h => by omega⟩
      case round =>
        obtain ⟨k, r, hs, done, v, hk, HKR, hr, rfl, rfl, rfl, HQ⟩ := hrel
        clear Q0
        by_cases hlt : k < l0
        · have er := HKR.out
          have hr1 : 1 ≤ r := by omega
          have nr : ((r : Int) == 0) = false := by simp; omega
          obtain ⟨g, rfl⟩ := owns_form HQ.out.1.1 hr1
          obtain ⟨kg1, kg2⟩ := QLT.out g rfl
          have hl2 : 1 ≤ l2 := by have := HZ.out k hlt; omega
          obtain ⟨gS, rfl⟩ := owns_form O8.out.1 hl2
          obtain ⟨gN, rfl⟩ := owns_form O8.out.2.1 hl2
          obtain ⟨bS1, bS2⟩ := BLK.out.1 gS rfl
          obtain ⟨bN1, bN2⟩ := BLK.out.2 gN rfl
          have HSM : Hid (∀ z ∈ hs, 0 ≤ z ∧ z < (l2 : Int)) := fun z hz => HZM.out z (HQ.out.1.2.2.1.mem_iff.1 (List.mem_append_right _ hz))
          have hsl : hs.length = r := by have := HQ.out.1.1.1; simpa using this
          obtain ⟨hd0, hd1⟩ := HSM.out _ (Heap.getD_mem hs 0 (by omega))
          have HMIN : Hid (∀ x ∈ hs, lat S N (hs.getD 0 0) x = false) := Heap.heap_min_all (lat_order S N) HQ.out.1.2.1
          have HDM : Hid (hs.getD 0 0 ∈ hs) := Heap.getD_mem hs 0 (by omega)
          have HPC := zzpop_len 0 w4.heap.size g r cap l2 l2 hs S N wr hr1 (owns_mono HQ.out.1.1 (Nat.zero_le _)) (O8.out.2.2.1.fr HQ.out.1.2.2.2.2 (fun k hk => by simp only [Value.ownBlock, Option.some.injEq] at hk ⊢; omega)) (by omega) (by omega) (by omega) HSM.out HQ.out.1.2.1
          generalize hs.getD 0 0 = dv at *
          clear hsl er
          go_wp2_with fail
          refine HPC.mono ?_
          rintro e w9 ⟨p, out, hrp, rfl, o9, hh9, hp9, gr9⟩
          obtain ⟨QN, oH⟩ := qs_step HQ.out.1 (by omega) kg1 hd0 hd1 o9 hh9 hp9 gr9
          have CH := owns_cell oH dv.toNat (by omega)
          have FH := oH.frozenAt dv.toNat
          obtain ⟨x0, x1⟩ := cnt_le done l2 dv.toNat
          have hdl := HQ.out.2.1
          generalize (cnt done l2).getD dv.toNat 0 = x at *
          have x2 : x ≤ 65536 := by omega
          have HN1 : Hid (r = p + 1 ∧ (∀ y ∈ out, lat S N dv y = false) ∧ done.length = k) := ⟨hrp, fun y hy => HMIN.out y (hp9.mem_iff.1 (List.mem_cons_of_mem _ hy)), hdl⟩
          have HV : Hid (1 ≤ k → 0 ≤ v ∧ v < (l2 : Int) ∧ lat S N v dv = false) := fun h1 => ⟨(HQ.out.2.2 h1).1, (HQ.out.2.2 h1).2.1, (HQ.out.2.2 h1).2.2 dv HDM.out⟩
          have hp0 : p ≤ l0 := by omega
          have oS9 := owns_fr O8.out.1 QN.2.2.2.2 (fun k hk => by simp only [Value.ownBlock, Option.some.injEq] at hk ⊢; omega)
          have oN9 := owns_fr O8.out.2.1 QN.2.2.2.2 (fun k hk => by simp only [Value.ownBlock, Option.some.injEq] at hk ⊢; omega)
          have OSN : Hid ((w9.setCell ⟨w7.heap.size, dv.toNat, none⟩ (.int .i64 (x + 1))).ownsRow w2.heap.size 2 1 (.slice (some ⟨gS, 0, none⟩) l2 cS) l2 (S.map (Value.int .i64)) ∧ (w9.setCell ⟨w7.heap.size, dv.toNat, none⟩ (.int .i64 (x + 1))).ownsRow w3.heap.size 21 1 (.slice (some ⟨gN, 0, none⟩) l2 cN) l2 (N.map (Value.int .i32))) := ⟨oS9, oN9⟩
          have HQN : Hid (QS w5.heap.size (some ⟨g, 0, none⟩) cap w7.heap.size l2 S N zs w8 (w9.setCell ⟨w7.heap.size, dv.toNat, none⟩ (.int .i64 (x + 1))) p out (done ++ [dv])) := QN
          clear QN oH o9 hh9 hp9 gr9 HPC HQ hrp hdl oS9 oN9 x1 HMIN HDM HSM
          go_wp2
          generalize hw10 : w9.setCell ⟨w7.heap.size, dv.toNat, none⟩ (.int .i64 (x + 1)) = w10 at OSN HQN ⊢
          clear hw10 CH FH
          by_cases hk0 : 1 ≤ k
          · obtain ⟨v0, v1, hva⟩ := HV.out hk0
            have C1 := owns_cell OSN.out.1 v.toNat (by omega)
            have C2 := owns_cell OSN.out.2 v.toNat (by omega)
            have C3 := owns_cell OSN.out.1 dv.toNat (by omega)
            have C4 := owns_cell OSN.out.2 dv.toNat (by omega)
            unfold lat at hva
            generalize S.getD v.toNat 0 = s1 at *
            generalize N.getD v.toNat 0 = t1 at *
            generalize S.getD dv.toNat 0 = s2 at *
            generalize N.getD dv.toNat 0 = t2 at *
            have HC : Hid (∀ w : World, Calls Try.prog 20 #[.int .i64 s1, .int .i32 t1, .int .i64 s2, .int .i32 t2] w fun e w' => e = .returned (.bool false) ∧ w' = w) := by
              intro w; rw [← hva]; exact zzAfter_any s1 t1 s2 t2 w
            clear hva HV
            have hkd : (0 : Int) < (k : Int) := by omega
            have hkn : 0 < k := by omega
            go_quiet ((go_at_call 20; exact Calls.quiet_of_same (HC.out _)))
            go_wp2
            go_roundw
            case rel =>
              have hq : QS w5.heap.size (some ⟨g, 0, none⟩) cap w7.heap.size l2 S N zs w8 (w10.drewN nq) p out (done ++ [dv]) := qs_below HQN.out (below_drewN (Below.refl _ _) _)
              exact ⟨k + 1, p, out, done ++ [dv], dv, by omega, (by have := HKR.out; have := HN1.out.1; show _ = _; omega), hp0, rfl, rfl, by go_num, hq, (by simp [HN1.out.2.2]), fun _ => ⟨hd0, hd1, HN1.out.2.1⟩⟩
            case measure => simp [intOf]; omega
          · have hkd : decide ((0 : Int) < (k : Int)) = false := decide_eq_false (by omega)
            have hkn : decide (0 < k) = false := decide_eq_false (by omega)
            go_quiet (fail)
            go_wp2
            go_roundw
            case rel =>
              have hq : QS w5.heap.size (some ⟨g, 0, none⟩) cap w7.heap.size l2 S N zs w8 (w10.drewN nq) p out (done ++ [dv]) := qs_below HQN.out (below_drewN (Below.refl _ _) _)
              exact ⟨k + 1, p, out, done ++ [dv], dv, by omega, (by have := HKR.out; have := HN1.out.1; show _ = _; omega), hp0, rfl, rfl, by go_num, hq, (by simp [HN1.out.2.2]), fun _ => ⟨hd0, hd1, HN1.out.2.1⟩⟩
            case measure => simp [intOf]; omega
        · have er := HKR.out
          obtain rfl : r = 0 := by omega
          have hs0 : hs = [] := by have := HQ.out.1.1.1; simp at this; exact this
          have hdp : done.Perm zs := by have := HQ.out.1.2.2.1; rw [hs0, List.append_nil] at this; exact this
          have hce := cnt_perm hdp l2
          have oH := HQ.out.1.2.2.2.1
          rw [hce] at oH
          have oW := owns_fr O8.out.2.2.2.1 HQ.out.1.2.2.2.2 (fun k hk => by
            simp only [Value.ownBlock, Option.some.injEq] at hk
            subst hk
            rintro (h | h)
            · have := (QLT.out _ h).2; omega
            · omega)
          have bq : Below w1.heap.size w1 wr := HQ.out.1.2.2.2.2.below O8.out.2.2.2.2 (by omega) (fun k hk hx => by
            rcases hx with h | h
            · have := (QLT.out _ h).1; omega
            · omega)
          have OF : Hid (wr.ownsRow wo.heap.size 3 1 (.slice (some ⟨wo.heap.size, 0, none⟩) l2 l2) l2 ((cnt zs l2).map (Value.int .i64)) ∧ wr.ownsRow w7.heap.size 3 1 (.slice (some ⟨w7.heap.size, 0, none⟩) l2 l2) l2 ((cnt zs l2).map (Value.int .i64)) ∧ Below w1.heap.size w1 wr) := ⟨oW, oH, bq⟩
          clear er hs0 hdp hce oH oW bq HQ O8 BLK QLT
          go_wp2_with fail
          refine (same_any _ _ l2 l2 l2 (cnt zs l2) wr (rd_of_owns OF.out.1) (rd_of_owns OF.out.2.1) (by omega)).mono ?_
          rintro e w13 ⟨rfl, hb13⟩
          have B13 : Hid (Below w1.heap.size w1 w13) := OF.out.2.2.trans (hb13.mono OF.out.2.2.size)
          clear hb13
          go_wp2
          go_ret
          exact ⟨rfl, B13.out⟩
end Go.Proofs.Qxb6001001a
