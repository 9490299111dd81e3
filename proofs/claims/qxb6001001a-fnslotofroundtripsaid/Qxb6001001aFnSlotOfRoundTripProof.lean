/-
  A PROOF OF 'Rows.FnSlotOfRoundTripSaid'. The frame is the seat's shell; the walks of slotOf, ZZSlotOf and the law itself are typed here.
-/
import Derived.Test.Qxb6001001aRows
import Derived.WalkKit
import Derived.ProofKit
import Derived.OpenShut
import Derived.ShutString
import Derived.Deep.QuietTactic
import Derived.BigQuiet
import Derived.Laws.BitsAllLaws
namespace Go.Proofs.Qxb6001001a.fnSlotOfRoundTrip
open Go.ChangeShapes Go.WideShapes Go.ChangeAt Go.RowKit
open Go.ChangeMaps (open_string shut_string)
set_option linter.unusedVariables false

theorem own : ownKnob Try.prog.godebug = none := by kernel_rfl

theorem or31 (x : Int) (h0 : 0 ≤ x) (h : x < 2147483648) : bits .or .u32 x 2147483648 = 2147483648 + x := by
  rw [u32_or x 2147483648 h0 (by omega) (by decide) (by decide), Nat.or_comm, nat_join 31 _ _ (by decide) (by omega)]
  omega
theorem andNot31 (x : Int) (h0 : 0 ≤ x) (h : x < 4294967296) : bits .andNot .u32 x 2147483648 = x % 2147483648 := by
  rw [u32_andNot x 2147483648 h0 h (by decide) (by decide)]
  have e : (4294967295 - (2147483648 : Int).toNat : Nat) = 2147483647 := by decide
  rw [e, nat_mask31]
  omega
theorem and31 (x : Int) (h0 : 0 ≤ x) (h : x < 4294967296) : bits .and .u32 x 2147483648 = x / 2147483648 * 2147483648 := by
  rw [u32_and x 2147483648 h0 h (by decide) (by decide)]
  have e : ((2147483648 : Int).toNat : Nat) = 2 ^ 31 := by decide
  rw [e, nat_bit]
  omega

set_option maxHeartbeats 400000 in
theorem slot_t (s : ByteArray) (a1 : Int) (a2 : Int) (a3 e1 e2 : Int) (h0 : 0 ≤ a2) (h : a2 < 2147483647) (w : World) :
    Calls Try.prog 23 #[.agg #[.string s, .bool true, .int .u64 a1, .int .i64 e1, .int .i32 e2], .int .u32 a2, .int .u32 a3] w fun e w' => e = .returned (.agg #[.int .u32 (1 + a2), .int .u32 a3, .int .u64 a1]) ∧ Grown w w' := by
  go_enter Try.func23, Try.ntmps23
  go_wp2
  exact bodyPost_ret (v := .agg #[.int .u32 (1 + a2), .int .u32 a3, .int .u64 a1]) (by simp [results, Try.results23, go_sem]) rfl ⟨rfl, by repeat (first | exact Grown.refl _ | apply Grown.drew | apply Grown.alloc)⟩
set_option maxHeartbeats 400000 in
theorem slot_f (s : ByteArray) (a1 : Int) (a2 : Int) (a3 e1 e2 : Int) (h0 : 0 ≤ a2) (h : a2 < 2147483647) (w : World) :
    Calls Try.prog 23 #[.agg #[.string s, .bool false, .int .u64 a1, .int .i64 e1, .int .i32 e2], .int .u32 a2, .int .u32 a3] w fun e w' => e = .returned (.agg #[.int .u32 (2147483648 + (1 + a2)), .int .u32 a3, .int .u64 a1]) ∧ Grown w w' := by
  have ho := or31 (1 + a2) (by omega) (by omega)
  go_enter Try.func23, Try.ntmps23
  go_wp2
  exact bodyPost_ret (v := .agg #[.int .u32 (2147483648 + (1 + a2)), .int .u32 a3, .int .u64 a1]) (by simp [results, Try.results23, go_sem]) rfl ⟨rfl, by repeat (first | exact Grown.refl _ | apply Grown.drew | apply Grown.alloc)⟩

theorem Grown.trans {a b c : World} (h : Grown a b) (k : Grown b c) : Grown a c := by
  refine ⟨?_, fun x => (k.2.1 x).trans (h.2.1 x), Nat.le_trans h.2.2 k.2.2⟩
  exact World.keptBut_trans h.1 k.1

set_option maxHeartbeats 400000 in
theorem zz_t (a1 : Int) (a2 : Int) (a3 : Int) (h0 : 0 ≤ a2) (h : a2 < 2147483647) (w : World) :
    Calls Try.prog 8 #[.bool true, .int .u64 a1, .int .u32 a2, .int .u32 a3] w fun e w' => e = .returned (.tuple #[.int .u32 (1 + a2), .int .u32 a3, .int .u64 a1]) ∧ Grown w w' := by
  go_enter Try.func8, Try.ntmps8
  go_wp2_with (go_at_call 23; refine (slot_t _ _ _ _ _ _ h0 h _).mono ?_; rintro e w' ⟨rfl, hg⟩)
  go_quiet (fail)
  go_wp2
  go_ret3
  exact ⟨rfl, by repeat (first | exact hg | apply Grown.drew | apply Grown.alloc)⟩

set_option maxHeartbeats 400000 in
theorem zz_f (a1 : Int) (a2 : Int) (a3 : Int) (h0 : 0 ≤ a2) (h : a2 < 2147483647) (w : World) :
    Calls Try.prog 8 #[.bool false, .int .u64 a1, .int .u32 a2, .int .u32 a3] w fun e w' => e = .returned (.tuple #[.int .u32 (2147483648 + (1 + a2)), .int .u32 a3, .int .u64 a1]) ∧ Grown w w' := by
  go_enter Try.func8, Try.ntmps8
  go_wp2_with (go_at_call 23; refine (slot_f _ _ _ _ _ _ h0 h _).mono ?_; rintro e w' ⟨rfl, hg⟩)
  go_quiet (fail)
  go_wp2
  go_ret3
  exact ⟨rfl, by repeat (first | exact hg | apply Grown.drew | apply Grown.alloc)⟩

set_option maxHeartbeats 400000 in
theorem walk_t (a1 : Int) (a2 : Int) (a3 : Int) (h0 : 0 ≤ a2) (h : a2 < 2147483647) (w : World) :
    Calls Try.prog 3 #[.bool true, .int .u64 a1, .int .u32 a2, .int .u32 a3] w fun e w' => e = .returned (.bool true) ∧ Grown w w' := by
  have b1 : bits .andNot .u32 (1 + a2) 2147483648 = 1 + a2 := by rw [andNot31 _ (by omega) (by omega)]; omega
  have b2 : bits .and .u32 (1 + a2) 2147483648 = 0 := by rw [and31 _ (by omega) (by omega)]; omega
  go_enter Try.func3, Try.ntmps3
  go_wp2_with (go_at_call 8; refine (zz_t _ _ _ h0 h _).mono ?_; rintro e w' ⟨rfl, hg⟩)
  go_ret
  exact ⟨rfl, hg⟩

set_option maxHeartbeats 400000 in
theorem walk_f (a1 : Int) (a2 : Int) (a3 : Int) (h0 : 0 ≤ a2) (h : a2 < 2147483647) (w : World) :
    Calls Try.prog 3 #[.bool false, .int .u64 a1, .int .u32 a2, .int .u32 a3] w fun e w' => e = .returned (.bool true) ∧ Grown w w' := by
  have b1 : bits .andNot .u32 (2147483648 + (1 + a2)) 2147483648 = 1 + a2 := by rw [andNot31 _ (by omega) (by omega)]; omega
  have b2 : bits .and .u32 (2147483648 + (1 + a2)) 2147483648 = 2147483648 := by rw [and31 _ (by omega) (by omega)]; omega
  go_enter Try.func3, Try.ntmps3
  go_wp2_with (go_at_call 8; refine (zz_f _ _ _ h0 h _).mono ?_; rintro e w' ⟨rfl, hg⟩)
  go_ret
  exact ⟨rfl, hg⟩

theorem walk_out (a0 : Bool) (a1 : Int) (a2 : Int) (a3 : Int) (h : ¬ a2 < 2147483647) (w : World) :
    Calls Try.prog 3 #[.bool a0, .int .u64 a1, .int .u32 a2, .int .u32 a3] w fun e w' => e = .returned (.bool true) ∧ Grown w w' := by
  go_enter Try.func3, Try.ntmps3
  go_wp2
  go_ret
  exact ⟨rfl, Grown.refl _⟩

theorem walk (a0 : Bool) (a1 : Int) (a2 : Int) (a3 : Int) (w1 : (Lit.int .u64 a1).wf = true) (w2 : (Lit.int .u32 a2).wf = true) (w3 : (Lit.int .u32 a3).wf = true) (w : World) :
    Calls Try.prog 3 #[.bool a0, .int .u64 a1, .int .u32 a2, .int .u32 a3] w fun e w' => e = .returned (.bool true) ∧ Grown w w' := by
  have h0 : 0 ≤ a2 := (bounds_u32 w2).1
  by_cases h : a2 < 2147483647
  · cases a0 with
    | true => exact walk_t a1 a2 a3 h0 h w
    | false => exact walk_f a1 a2 a3 h0 h w
  · exact walk_out a0 a1 a2 a3 h w

/-! ### THE ROW's STEP: WRITTEN OUT: LEAVE IT -/
set_option maxRecDepth 100000 in
theorem lifted (os : Os) (started : os.Started) (H : Type) (enc : TypeId × Value → H) :
    ReturnsInHanded {} Try.checked os 3 .any (Rows.fnSlotOfRoundTripSpec.pre6 enc Try.prog Try.f3 Rows.fnSlotOfRoundTripRow.domain false) (Rows.fnSlotOfRoundTripSpec.post enc Try.prog Try.f3 false true false false) := by
  refine returnsInHanded_of_change (C := Try.checked) own started (by kernel_rfl) Try.func3
    (ChangeSpec.witness6 (enc := enc) (C := Try.checked) false ⟨#[], #[.bool false, .int .u64 0, .int .u32 0, .int .u32 0], []⟩ 8 (by kernel_rfl) (by kernel_rfl) (by kernel_rfl) (by kernel_rfl)) ?_
  intro W base args ds gs before hval0 hW hcnd _
  have hval : ∀ (j : Nat) t v, Try.f3.params[j]? = some t → args[j]? = some v → Value.okWide Try.prog W .any base t v := hval0
  have hW' := hW
  obtain ⟨p, q, hA0, hV, rfl, hfz, hnd⟩ := hW
  have hA : DataW.TrodAll enc Try.prog W 0 (fun _ => true) true Try.f3.params.toList args.toList ds p := hA0
  rw [Try.params3] at hA hval
  obtain ⟨v0, vs0, d0, ds0, p0, q0, hargs, rfl, rfl, h0, r0⟩ := trodAll_cons hA
  obtain ⟨v1, vs1, d1, ds1, p1, q1, rfl, rfl, rfl, h1, r1⟩ := trodAll_cons r0
  obtain ⟨v2, vs2, d2, ds2, p2, q2, rfl, rfl, rfl, h2, r2⟩ := trodAll_cons r1
  obtain ⟨v3, vs3, d3, ds3, p3, q3, rfl, rfl, rfl, h3, r3⟩ := trodAll_cons r2
  obtain ⟨rfl, rfl, rfl⟩ := trodAll_nil r3
  obtain rfl : args = #[v0, v1, v2, v3] := by cases args; simp_all
  obtain ⟨rfl, rfl⟩ := trodVars_none hV
  obtain ⟨a0, rfl, rfl, rfl⟩ := open_bool Try.underlying4 (hval 0 4 v0 rfl rfl) h0
  obtain ⟨a1, rfl, rfl, rfl, w1⟩ := open_int Try.underlying22 (hval 1 22 v1 rfl rfl) h1
  obtain ⟨a2, rfl, rfl, rfl, w2⟩ := open_int Try.underlying23 (hval 2 23 v2 rfl rfl) h2
  obtain ⟨a3, rfl, rfl, rfl, w3⟩ := open_int Try.underlying23 (hval 3 23 v3 rfl rfl) h3
  clear hA0 hval0
  simp only [List.append_nil] at hW'
  refine (walk a0 a1 a2 a3 w1 w2 w3 W).mono fun e W' ⟨he, hg⟩ => ?_
  subst he
  exact ⟨_, rfl, post_of_same (pa := []) (pv := []) hW' (fun _ _ _ => (trodAll_cons_mk (shut_bool Try.underlying4 _) trodAll_mk0)) (fun sp _ => (trodAll_cons_mk (shut_bool Try.underlying4 _) (trodAll_cons_mk (shut_int Try.underlying22 w1) (trodAll_cons_mk (shut_int Try.underlying23 w2) (trodAll_cons_mk (shut_int Try.underlying23 w3) trodAll_mk0))))) (fun _ _ => rfl) rfl
    (hg.frame _) hg.2.1 (ok_one (by kernel_rfl) rfl (okWide_bool_mk Try.underlying4 _))⟩

theorem over : Rows.fnSlotOfRoundTripRow.holds Try.pinned (OpenSpec.ofChange Rows.fnSlotOfRoundTripSpec) :=
  OpenClaim.holds_of_wide 3 Try.f3 rfl rfl rfl rfl rfl rfl rfl ⟨rfl, rfl, rfl, rfl, rfl⟩ rfl rfl rfl rfl rfl (by kernel_rfl) Try.func3 (by kernel_rfl)
    (of_decide_eq_true (by kernel_rfl)) (by unfold Func.isWrapper; first | (rw [if_pos (by decide +kernel)]; kernel_rfl) | (rw [if_neg (by decide +kernel)]; exact ⟨rfl, rfl⟩))
    (fun os started H enc _ => lifted os started H enc)

/-- ████ THE STATEMENT ████ -/
theorem proved : Rows.FnSlotOfRoundTripSaid :=
  over
#print axioms proved
end Go.Proofs.Qxb6001001a.fnSlotOfRoundTrip
