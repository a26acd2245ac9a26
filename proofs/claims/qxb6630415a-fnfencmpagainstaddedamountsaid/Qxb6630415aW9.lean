import Derived.Test.Qxb6630415aW8
namespace Go.Proofs.Qxb6630415a
open Go.RowKit

theorem intAdd_any (ba bb gx gy : Nat) (x y : Int) (w : World) (_hx : x ≠ 0) (hy : y ≠ 0) (hs : decide (y < 0) = decide (x < 0))
    (x0 : -9223372036854775808 ≤ x) (x1 : x ≤ 9223372036854775807) (y0 : -9223372036854775808 ≤ y) (y1 : y ≤ 9223372036854775807)
    (hb : w.heap[ba]? = some (.cells #[.bool (decide (x < 0)), .slice (some ⟨gx, 0, none⟩) 1 1] 34))
    (hc : w.heap[bb]? = some (.cells #[.bool (decide (y < 0)), .slice (some ⟨gy, 0, none⟩) 1 1] 34))
    (h0 : w.cell? ⟨gx, 0, none⟩ = some (.int .u64 x.natAbs)) (h1 : w.cell? ⟨gy, 0, none⟩ = some (.int .u64 y.natAbs)) :
    Calls Try.prog 10 #[.pointer (some ⟨ba, 0, none⟩), .pointer (some ⟨ba, 0, none⟩), .pointer (some ⟨bb, 0, none⟩)] w fun e w' => e = .returned (.pointer (some ⟨ba, 0, none⟩)) ∧
      Only ba w w' ∧ BI w' ba (x + y) := by
  rw [hs] at hc
  have hlt := heap_lt hb
  have hs' : (y < 0 ↔ x < 0) := by simpa using hs
  have hd : decide (x + y < 0) = decide (x < 0) := by
    rw [Bool.eq_iff_iff]; simp; omega
  have hn : ((x + y).natAbs : Int) = (x.natAbs : Int) + (y.natAbs : Int) := by omega
  by_cases hlo : (x.natAbs : Int) + (y.natAbs : Int) < 18446744073709551616
  · refine (intAdd_n ba bb gx gy _ _ _ w hb hc h0 h1 (by omega) (by omega) ((x.natAbs : Int) + (y.natAbs : Int)) (by omega) (by omega) (by simp; omega)).mono ?_
    rintro e w' ⟨rfl, n, rfl⟩
    refine ⟨rfl, Only.of_sets _ _ _ _ _ n, ⟨_, _, _, by rw [hd]; exact heap_sets ba w _ _ _ n _ _ hb, Or.inr (Or.inl ⟨by omega, by omega, rfl, _, rfl, by rw [hn]; exact heap_sets_new ba w _ _ _ n 0⟩), ?_⟩⟩
    intro g hg; cases hg; show w.heap.size ≠ ba; omega
  · refine (intAdd_c ba bb gx gy _ _ _ w hb hc h0 h1 (by omega) (by omega) 0 1 (by omega) (by omega) (by decide)).mono ?_
    rintro e w' ⟨rfl, n, rfl⟩
    refine ⟨rfl, Only.of_sets _ _ _ _ _ n, ⟨_, _, _, by rw [hd]; exact heap_sets ba w _ _ _ n _ _ hb, Or.inr (Or.inr ⟨by omega, rfl, _, rfl, heap_sets_new ba w _ _ _ n 0, heap_sets_new ba w _ _ _ n 1⟩), ?_⟩⟩
    intro g hg; cases hg; show w.heap.size ≠ ba; omega

theorem natCmp_any (a1 a2 : Option Addr) (n1 n2 c1 c2 : Nat) (m1 m2 : Int) (w : World) (h1 : NatIs w a1 n1 c1 m1) (h2 : NatIs w a2 n2 c2 m2) :
    Calls Try.prog 23 #[.slice a1 n1 c1, .slice a2 n2 c2] w fun e w' => e = .returned (.int .i64 (sign3 m1 m2)) ∧ ∃ m, w' = w.drewN m := by
  rcases h1 with ⟨p1, rfl, rfl, rfl⟩ | ⟨p1, q1, rfl, g1, rfl, k1⟩ | ⟨p1, rfl, g1, rfl, k1, l1⟩ <;>
    rcases h2 with ⟨p2, rfl, rfl, rfl⟩ | ⟨p2, q2, rfl, g2, rfl, k2⟩ | ⟨p2, rfl, g2, rfl, k2, l2⟩
  · rw [← sign3_eq (x := m1) (y := m2) (by omega)]
    exact (natCmp_00 _ _ _ _ w).mono fun e w' ⟨he, hw⟩ => ⟨he, 0, hw⟩
  · rw [← sign3_lt (x := m1) (y := m2) (by omega)]
    exact (natCmp_lt _ _ _ _ _ _ (by omega) w).mono fun e w' ⟨he, hw⟩ => ⟨he, 0, hw⟩
  · rw [← sign3_lt (x := m1) (y := m2) (by omega)]
    exact (natCmp_lt _ _ _ _ _ _ (by omega) w).mono fun e w' ⟨he, hw⟩ => ⟨he, 0, hw⟩
  · rw [← sign3_gt (x := m1) (y := m2) (by omega)]
    exact (natCmp_gt _ _ _ _ _ _ (by omega) w).mono fun e w' ⟨he, hw⟩ => ⟨he, 0, hw⟩
  · exact natCmp_11 g1 g2 _ _ _ _ w k1 k2
  · rw [← sign3_lt (x := m1) (y := m2) (by omega)]
    exact (natCmp_lt _ _ _ _ _ _ (by omega) w).mono fun e w' ⟨he, hw⟩ => ⟨he, 0, hw⟩
  · rw [← sign3_gt (x := m1) (y := m2) (by omega)]
    exact (natCmp_gt _ _ _ _ _ _ (by omega) w).mono fun e w' ⟨he, hw⟩ => ⟨he, 0, hw⟩
  · rw [← sign3_gt (x := m1) (y := m2) (by omega)]
    exact (natCmp_gt _ _ _ _ _ _ (by omega) w).mono fun e w' ⟨he, hw⟩ => ⟨he, 0, hw⟩
  · rw [← sign3_eq (x := m1) (y := m2) (by omega)]
    exact natCmp_22 g1 g2 _ _ w k1 k2 l1 l2

theorem sign3_bd (x y : Int) : -1 ≤ sign3 x y ∧ sign3 x y ≤ 1 := by
  unfold sign3; split <;> (try split) <;> omega

theorem intCmp_any (b1 b2 : Nat) (x y : Int) (w : World) (hne : b1 ≠ b2) (h1 : BI w b1 x) (h2 : BI w b2 y) :
    Calls Try.prog 12 #[.pointer (some ⟨b1, 0, none⟩), .pointer (some ⟨b2, 0, none⟩)] w fun e w' => e = .returned (.int .i64 (sign3 x y)) ∧ ∃ n, w' = w.drewN n := by
  obtain ⟨a1, n1, c1, hb, hn1, _⟩ := h1
  obtain ⟨a2, n2, c2, hc, hn2, _⟩ := h2
  by_cases hs : decide (y < 0) = decide (x < 0)
  · rw [hs] at hc
    have hs' : (y < 0 ↔ x < 0) := by simpa using hs
    have hbd := sign3_bd x.natAbs y.natAbs
    have hv : sign3 x y = if decide (x < 0) then -(sign3 x.natAbs y.natAbs) else sign3 x.natAbs y.natAbs := by
      unfold sign3
      by_cases hx : x < 0
      · simp only [hx, decide_true, if_true]
        split <;> split <;> (try split) <;> (try split) <;> omega
      · simp only [hx, decide_false, Bool.false_eq_true, if_false]
        split <;> split <;> (try split) <;> (try split) <;> omega
    rw [hv]
    exact intCmp_same b1 b2 a1 a2 n1 n2 c1 c2 _ _ hbd.1 hbd.2 w hne hb hc (fun wx hw => natCmp_any _ _ _ _ _ _ _ _ wx (hn1.keep fun p _ => by rw [hw]) (hn2.keep fun p _ => by rw [hw]))
  · have hs' : decide (y < 0) = !decide (x < 0) := by
      revert hs; cases decide (y < 0) <;> cases decide (x < 0) <;> simp
    rw [hs'] at hc
    have hv : sign3 x y = if decide (x < 0) then -1 else 1 := by
      simp at hs
      unfold sign3
      by_cases hx : x < 0
      · simp only [hx, decide_true, if_true]
        rw [if_pos (by omega)]
      · simp only [hx, decide_false, Bool.false_eq_true, if_false]
        rw [if_neg (by omega), if_pos (by omega)]
    rw [hv]
    exact intCmp_diff b1 b2 a1 a2 n1 n2 c1 c2 _ w hne hb hc

theorem isInt64_any (b : Nat) (v : Int) (w : World) (h : BI w b v) (ho : v < -9223372036854775808 ∨ 9223372036854775807 < v) :
    Calls Try.prog 13 #[.pointer (some ⟨b, 0, none⟩)] w fun e w' => e = .returned (.bool false) ∧ w' = w := by
  obtain ⟨a, n, c, hb, hn, _⟩ := h
  have hc0 := cell_of_heap (i := 0) hb
  have hc1 := cell_of_heap (i := 1) hb
  simp at hc0 hc1
  rcases hn with ⟨h, _⟩ | ⟨h1, h2, rfl, g, rfl, hg0⟩ | ⟨h1, rfl, g, rfl, hg0, hg1⟩
  · omega
  · exact isInt64_1 b g c _ _ w (by omega) h2 (fun hd => by simp at hd; omega) hc0 hc1 hg0
  · exact isInt64_2 b c _ w hc1

end Go.Proofs.Qxb6630415a
