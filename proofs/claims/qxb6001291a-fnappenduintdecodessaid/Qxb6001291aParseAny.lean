/-
  parseElement (14) on what appendElement wrote, whatever the length of the contents; ZZappendElement (12); a row's head.
-/
import Derived.Test.Qxb6001291aParse
import Derived.Test.Qxb6001291aElem
namespace Go.Proofs.Qxb6001291a
open Go.RowKit
set_option linter.unusedVariables false

theorem getD_at (zs ys : List Int) (i : Nat) : (zs ++ ys).getD (zs.length + i) 0 = ys.getD i 0 := by
  rw [List.getD_eq_getElem?_getD, List.getD_eq_getElem?_getD, List.getElem?_append_right (by omega)]
  simp

theorem drop_at (zs ys : List Int) (i : Nat) : (zs ++ ys).drop (zs.length + i) = ys.drop i := by
  rw [List.drop_append]
  simp

/-- One way: p bytes stand between the head zs and the contents cs. -/
theorem parse_way {B g n cap n0 m : Nat} {zs cs bs : List Int} {t : Int} {w : World} {P : Nat}
    (h : w.ownsRow B 5 1 (.slice (some ⟨g, 0, none⟩) n cap) n ((zs ++ (bs ++ cs)).map (Value.int .u8))) (hz : zs.length = n0) (hb : bs.length = P) (hcs : cs.length = m) :
    n = n0 + P + m ∧ (∀ i, i < P → w.cell? ⟨g, n0 + i, none⟩ = some (.int .u8 (bs.getD i 0))) ∧ (∀ a, (0 < m → a = some ⟨g, n0 + P, none⟩) → Rd .u8 w a m cs) ∧ n ≤ cap ∧ cap ≤ maxLen := by
  have hn : n = n0 + P + m := by have := h.1; simp at this; omega
  refine ⟨hn, ?_, ?_, cap_of_owns h⟩
  · intro i hi
    rw [owns_cell h (n0 + i) (by omega), ← hz, getD_at]
    congr 2
    rw [List.getD_eq_getElem?_getD, List.getD_eq_getElem?_getD, List.getElem?_append_left (by omega)]
  · intro a ha
    have := rd_drop h a (p := n0 + P) (by omega) (fun hlt => ha (by omega))
    rw [show n - (n0 + P) = m by omega, ← hz, drop_at, List.drop_append, List.drop_of_length_le (by omega), hb, Nat.sub_self] at this
    exact this

theorem parse_any (B g n cap n0 m : Nat) (zs cs : List Int) (t : Int) (w : World) (h : w.ownsRow B 5 1 (.slice (some ⟨g, 0, none⟩) n cap) n ((zs ++ [t] ++ lenB m ++ cs).map (Value.int .u8)))
    (hz : zs.length = n0) (hcs : cs.length = m) (hn : n0 ≤ 1048576) (hm : m ≤ 1048576) :
    Calls Try.prog 14 #[.slice (some ⟨g, 0, none⟩) n cap, .int .i64 n0] w fun e w' => ∃ a cc, e = .returned (.tuple #[.int .u8 t, .slice a m cc, .bool true]) ∧ Rd .u8 w' a m cs ∧ Below w.heap.size w w' := by
  by_cases h1 : m < 128
  · have e : lenB m = [(m : Int)] := by unfold lenB; rw [if_pos h1]
    rw [e, show zs ++ [t] ++ [(m : Int)] ++ cs = zs ++ ([t, (m : Int)] ++ cs) by simp] at h
    obtain ⟨rfl, hc, hr, hca, hcm⟩ := parse_way (t := t) h hz rfl hcs
    exact (parse_short g n0 m cap t w hn h1 hca hcm (hc 0 (by simp)) (hc 1 (by simp))).mono fun e w' ⟨a, cc, he, ha, hb⟩ => ⟨a, cc, he, (hr a ha).below hb, hb⟩
  · by_cases h2 : m < 256
    · have e : lenB m = [129, (m : Int)] := by unfold lenB; rw [if_neg h1, if_pos h2]
      rw [e, show zs ++ [t] ++ [129, (m : Int)] ++ cs = zs ++ ([t, 129, (m : Int)] ++ cs) by simp] at h
      obtain ⟨rfl, hc, hr, hca, hcm⟩ := parse_way (t := t) h hz rfl hcs
      exact (parse_long1 g n0 m cap t w hn (by omega) hm hca hcm (hc 0 (by simp)) (hc 1 (by simp)) (hc 2 (by simp)) (by omega) (by simp; omega)).mono fun e w' ⟨a, cc, he, ha, hb⟩ => ⟨a, cc, he, (hr a ha).below hb, hb⟩
    · by_cases h3 : m < 65536
      · have e : lenB m = [130, (m : Int) / 256, (m : Int) % 256] := by unfold lenB; rw [if_neg h1, if_neg h2, if_pos h3]
        rw [e, show zs ++ [t] ++ [130, (m : Int) / 256, (m : Int) % 256] ++ cs = zs ++ ([t, 130, (m : Int) / 256, (m : Int) % 256] ++ cs) by simp] at h
        obtain ⟨rfl, hc, hr, hca, hcm⟩ := parse_way (t := t) h hz rfl hcs
        exact (parse_long2 g n0 m cap t ((m : Int) / 256) ((m : Int) % 256) w hn (by omega) hm hca hcm (hc 0 (by simp)) (hc 1 (by simp)) (hc 2 (by simp)) (hc 3 (by simp)) (by omega) (by omega) (by omega) (by omega) (by simp; omega) (by omega)).mono fun e w' ⟨a, cc, he, ha, hb⟩ => ⟨a, cc, he, (hr a ha).below hb, hb⟩
      · have e : lenB m = [131, (m : Int) / 65536, (m : Int) / 256 % 256, (m : Int) % 256] := by unfold lenB; rw [if_neg h1, if_neg h2, if_neg h3]
        rw [e, show zs ++ [t] ++ [131, (m : Int) / 65536, (m : Int) / 256 % 256, (m : Int) % 256] ++ cs = zs ++ ([t, 131, (m : Int) / 65536, (m : Int) / 256 % 256, (m : Int) % 256] ++ cs) by simp] at h
        obtain ⟨rfl, hc, hr, hca, hcm⟩ := parse_way (t := t) h hz rfl hcs
        exact (parse_long3 g n0 m cap t ((m : Int) / 65536) ((m : Int) / 256 % 256) ((m : Int) % 256) w hn (by omega) hm hca hcm (hc 0 (by simp)) (hc 1 (by simp)) (hc 2 (by simp)) (hc 3 (by simp)) (hc 4 (by simp)) (by omega) (by omega) (by omega) (by omega) (by omega) (by omega) (by simp; omega) (by omega)).mono fun e w' ⟨a, cc, he, ha, hb⟩ => ⟨a, cc, he, (hr a ha).below hb, hb⟩

set_option maxHeartbeats 400000 in
theorem zzelem_any (a ac : Option Addr) (n m cc : Nat) (zs cs : List Int) (t : Int) (w : World) (hb : Rd .u8 w a n zs) (hbn : a = none → n = 0) (hc : Rd .u8 w ac m cs)
    (hnone : ac = none → m = 0 ∧ cc = 0) (hn : n ≤ 1048576) (hm : m ≤ 1048576) :
    Calls Try.prog 12 #[.slice a n n, .int .u8 t, .slice ac m cc] w fun e w' => ∃ g cap' n', e = .returned (.slice (some ⟨g, 0, none⟩) n' cap') ∧ AW w w' (.slice (some ⟨g, 0, none⟩) n' cap') n' (zs ++ [t] ++ lenB m ++ cs) := by
  have HPC := elem_any a ac n m cc zs cs t w hb hbn hc hnone hn hm
  have HC : Hid (Calls Try.prog 23 #[.slice a n n, .int .u8 t, .slice ac m cc] w fun e w' => ∃ g cap' n', e = .returned (.slice (some ⟨g, 0, none⟩) n' cap') ∧ AW w w' (.slice (some ⟨g, 0, none⟩) n' cap') n' (zs ++ [t] ++ lenB m ++ cs)) := HPC
  clear HPC hb hbn hc hnone
  go_enter Try.func12, Try.ntmps12
  go_wp2_with fail
  refine HC.out.mono ?_
  rintro e w' ⟨g, cap', n', rfl, hA⟩
  have HA : Hid (AW w w' (.slice (some ⟨g, 0, none⟩) n' cap') n' (zs ++ [t] ++ lenB m ++ cs)) := hA
  clear hA HC
  go_wp2
  go_ret
  exact ⟨_, _, _, rfl, HA.out⟩

/-- The head of what was appended to. -/
theorem head_rd {B g n cap n0 : Nat} {zs ys : List Int} {w : World} (h : w.ownsRow B 5 1 (.slice (some ⟨g, 0, none⟩) n cap) n ((zs ++ ys).map (Value.int .u8))) (hz : zs.length = n0) : n0 ≤ n ∧ Rd .u8 w (some ⟨g, 0, none⟩) n0 zs := by
  have hn : n = n0 + ys.length := by have := h.1; simp at this; omega
  refine ⟨by omega, ?_⟩
  have := (rd_of_owns h).pre (m := n0) (by omega)
  rw [List.take_append_of_le_length (by omega), List.take_of_length_le (by omega)] at this
  exact this
end Go.Proofs.Qxb6001291a
