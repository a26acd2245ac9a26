import Derived.Test.Qxb6630415aWa
namespace Go.Proofs.Qxb6630415a
open Go.RowKit
attribute [local go_sem ↓] Go.wp_at_zero Go.wp_at_succ
attribute [local go_sem] alloc_drewN setCell_drewN

theorem fenAdd_in (x y : Int) (x0 : -9223372036854775808 ≤ x) (x1 : x ≤ 9223372036854775807) (y0 : -9223372036854775808 ≤ y) (y1 : y ≤ 9223372036854775807)
    (s0 : -9223372036854775808 ≤ x + y) (s1 : x + y ≤ 9223372036854775807) (w : World) :
    Calls Try.prog 7 #[.agg #[.int .i64 x, .pointer none], .agg #[.int .i64 y, .pointer none]] w fun e w' => e = .returned (.agg #[.int .i64 (x + y), .pointer none]) ∧ Below w.heap.size w w' := by
  by_cases h : decide (x + y < 0) = decide (x < 0)
  · have ht : (decide (x + y < 0) == decide (x < 0)) = true := by simpa using h
    clear h
    go_enter Try.func7, Try.ntmps7
    go_wp2
    exact bodyPost_ret (v := .agg #[.int .i64 (x + y), .pointer none]) (by simp [results, Try.results7, go_sem]) rfl ⟨rfl, (((Below.refl _ _).alloc (Nat.le_refl _) _).alloc (by simp) _).alloc (by simp; omega) _⟩
  · have ht : (decide (x + y < 0) == decide (x < 0)) = false := by simpa using h
    have ht2 : (decide (x + y < 0) == decide (y < 0)) = true := by
      rw [beq_iff_eq, Bool.eq_iff_iff]; rw [Bool.eq_iff_iff] at h; simp at h ⊢; omega
    clear h
    go_enter Try.func7, Try.ntmps7
    go_wp2
    exact bodyPost_ret (v := .agg #[.int .i64 (x + y), .pointer none]) (by simp [results, Try.results7, go_sem]) rfl ⟨rfl, (((Below.refl _ _).alloc (Nat.le_refl _) _).alloc (by simp) _).alloc (by simp; omega) _⟩

/-- Where Add and Cmp stand: the two operands' boxes, a result's, then whatever the walk has made. -/
def Stage (N : Nat) (x y : Value) (p q : Value) (wx : World) : Prop :=
  wx.heap[N]? = some (.cells #[x, p] 24) ∧ wx.heap[N + 1]? = some (.cells #[y, q] 24)
theorem Stage.only {N : Nat} {x y p q : Value} {wx w' : World} {b : Nat} (h : Stage N x y p q wx) (ho : Only b wx w') (hb : N + 2 ≤ b) : Stage N x y p q w' :=
  ⟨(ho.block _ (heap_lt h.1) (by omega)).trans h.1, (ho.block _ (heap_lt h.2) (by omega)).trans h.2⟩
theorem Stage.cells {N : Nat} {x y p q : Value} {wx : World} (h : Stage N x y p q wx) :
    wx.cell? ⟨N, 0, none⟩ = some x ∧ wx.cell? ⟨N, 1, none⟩ = some p ∧ wx.cell? ⟨N + 1, 0, none⟩ = some y ∧ wx.cell? ⟨N + 1, 1, none⟩ = some q :=
  ⟨cell_of_heap h.1, cell_of_heap h.1, cell_of_heap h.2, cell_of_heap h.2⟩
theorem Zero.only {w w' : World} {b b2 : Nat} (h : Zero w b) (ho : Only b2 w w') (hne : b ≠ b2) : Zero w' b := (ho.block b (heap_lt h) hne).trans h
theorem Only.heap {w w' : World} {b d : Nat} {o : Obj} (ho : Only b w w') (h : w.heap[d]? = some o) (hne : d ≠ b) : w'.heap[d]? = some o := (ho.block d (heap_lt h) hne).trans h

theorem Only.of_drew1 {b : Nat} {w w' : World} (h : Only b w.drew w') : Only b w w' := ⟨h.os, h.tape, h.output, h.size, h.block⟩

theorem BI.apart' {w w' : World} {b d : Nat} {v : Int} (h : BI w b v) (ho : Only d w w') (u : Value) (hu : w.cell? ⟨d, 0, none⟩ = some u) (hk : ∀ x, u ≠ .int .u64 x) (hk2 : ∀ x, u ≠ .bool x) : BI w' b v := by
  refine h.apart ho (fun e => ?_) u hu hk
  obtain ⟨a, n, c, hh, -⟩ := h
  subst e
  rw [cell_of_heap hh] at hu
  simp at hu
  exact hk2 _ hu.symm

theorem start5 (w : World) (o0 o1 o2 o3 o4 : Obj) :
    ((((((w.alloc o0).alloc o1).alloc o2).alloc o3).alloc o4).heap[w.heap.size]? = some o0 ∧ (((((w.alloc o0).alloc o1).alloc o2).alloc o3).alloc o4).heap[w.heap.size + 1]? = some o1 ∧
    (((((w.alloc o0).alloc o1).alloc o2).alloc o3).alloc o4).heap[w.heap.size + 1 + 1]? = some o2 ∧ (((((w.alloc o0).alloc o1).alloc o2).alloc o3).alloc o4).heap[w.heap.size + 1 + 1 + 1]? = some o3 ∧
    (((((w.alloc o0).alloc o1).alloc o2).alloc o3).alloc o4).heap[w.heap.size + 1 + 1 + 1 + 1]? = some o4) ∧ Below w.heap.size w (((((w.alloc o0).alloc o1).alloc o2).alloc o3).alloc o4) ∧ 
      (((((w.alloc o0).alloc o1).alloc o2).alloc o3).alloc o4).heap.size = w.heap.size + 5 := by
  refine ⟨⟨?_, ?_, ?_, ?_, ?_⟩, ?_, by simp⟩
  · rw [Below.heap_alloc _ _ _ (by simp only [World.size_alloc]; omega), Below.heap_alloc _ _ _ (by simp only [World.size_alloc]; omega), Below.heap_alloc _ _ _ (by simp only [World.size_alloc]; omega), Below.heap_alloc _ _ _ (by simp)]; exact heap_new _ _ _ (by simp)
  · rw [Below.heap_alloc _ _ _ (by simp only [World.size_alloc]; omega), Below.heap_alloc _ _ _ (by simp only [World.size_alloc]; omega), Below.heap_alloc _ _ _ (by simp)]; exact heap_new _ _ _ (by simp)
  · rw [Below.heap_alloc _ _ _ (by simp only [World.size_alloc]; omega), Below.heap_alloc _ _ _ (by simp)]; exact heap_new _ _ _ (by simp)
  · rw [Below.heap_alloc _ _ _ (by simp)]; exact heap_new _ _ _ (by simp)
  · exact heap_new _ _ _ (by simp)
  · exact (((((Below.refl _ w).alloc (Nat.le_refl _) _).alloc (by simp) _).alloc (by simp; omega) _).alloc (by simp; omega) _).alloc (by simp; omega) _

theorem fenAdd_over (x y : Int) (x0 : -9223372036854775808 ≤ x) (x1 : x ≤ 9223372036854775807) (y0 : -9223372036854775808 ≤ y) (y1 : y ≤ 9223372036854775807)
    (s : x + y < -9223372036854775808 ∨ 9223372036854775807 < x + y) (w : World) :
    Calls Try.prog 7 #[.agg #[.int .i64 x, .pointer none], .agg #[.int .i64 y, .pointer none]] w fun e w' => (∃ g, e = .returned (.agg #[.int .i64 0, .pointer (some ⟨g, 0, none⟩)]) ∧ BI w' g (x + y)) ∧ Below w.heap.size w w' := by
  have ht : (decide (wrap64 (x + y) < 0) == decide (x < 0)) = false := by
    rw [beq_eq_false_iff_ne, ne_eq, Bool.eq_iff_iff]; simp; unfold wrap64; omega
  have ht2 : (decide (wrap64 (x + y) < 0) == decide (y < 0)) = false := by
    rw [beq_eq_false_iff_ne, ne_eq, Bool.eq_iff_iff]; simp; unfold wrap64; omega
  have hxne : x ≠ 0 := by omega
  have hyne : y ≠ 0 := by omega
  have hs : decide (y < 0) = decide (x < 0) := by rw [Bool.eq_iff_iff]; simp; omega
  have hfacts := start5 w (.cells #[.int .i64 x, .pointer none] 24) (.cells #[.int .i64 y, .pointer none] 24) (.cells #[.int .i64 0, .pointer none] 24) (.cells #[.bool false, .slice none 0 0] 34) (.cells #[.bool false, .slice none 0 0] 34)
  have Hs : Hid (decide (y < 0) = decide (x < 0)) := hs
  have Hf := hfacts
  clear hfacts hs
  go_enter Try.func7, Try.ntmps7
  go_wp2
  generalize (((((w.alloc (.cells #[.int .i64 x, .pointer none] 24)).alloc (.cells #[.int .i64 y, .pointer none] 24)).alloc (.cells #[.int .i64 0, .pointer none] 24)).alloc (.cells #[.bool false, .slice none 0 0] 34)).alloc (.cells #[.bool false, .slice none 0 0] 34)) = w5 at *
  obtain ⟨⟨hN0, hN1, hN2, hz3, hz4⟩, hbe, hsz⟩ := Hf
  have hst : Stage w.heap.size (.int .i64 x) (.int .i64 y) (.pointer none) (.pointer none) w5 := ⟨hN0, hN1⟩
  obtain ⟨k0, k1, k2, k3⟩ := hst.cells
  clear hN0 hN1
  go_region_with (first
    | (go_at_call_of 11 x; go_must (refine (bigInt_small _ x x0 x1 _ ?_).mono ?_; exact hz3; rintro e w1 ⟨rfl, hO1', hbi1, hx1⟩; have hO1 := hO1'.of_drew1; obtain ⟨gx, hgx, hxb, hxc⟩ := hx1 hxne; obtain ⟨m0, m1, m2, m3⟩ := (hst.only hO1 (by omega)).cells))
    | (go_at_call_of 11 y; go_must (refine (bigInt_small _ y y0 y1 _ ?_).mono ?_; exact Zero.only hz4 hO1 (by omega); rintro e w2 ⟨rfl, hO2, hbi2, hx2⟩; obtain ⟨gy, hgy, hyb, hyc⟩ := hx2 hyne))
    | (go_at_call 10; go_must (refine (intAdd_any _ _ gx gy x y _ hxne hyne Hs.out x0 x1 y0 y1 ?_ hyb ?_ hyc).mono ?_; exact hO2.heap hxb (by omega); exact (hO2.cell (World.block_lt_of_cell? _ _ hxc) (by simp at hgx; show gx ≠ _; omega)).trans hxc; rintro e w3 ⟨rfl, hO3, hbi3⟩))
    | (go_at_call 9; go_must (refine (fenOfBig_any _ _ _ hbi3 s).mono ?_; rintro e w4 ⟨⟨g, rfl, hbi4⟩, hbe4⟩; have hR := hO3.heap (hO2.heap (hO1.heap hN2 (by omega)) (by omega)) (by omega); have hR4 := (hbe4.block _ (heap_lt hR)).trans hR; have c0 := cell_of_heap (i := 0) hR4; have c1 := cell_of_heap (i := 1) hR4; have f0 := frozen_of_heap (i := 0) hR4; have f1 := frozen_of_heap (i := 1) hR4; simp at c0 c1)))
  all_goals go_wp2
  all_goals
    refine bodyPost_ret (v := .agg #[.int .i64 0, .pointer (some ⟨g, 0, none⟩)]) (by simp [results, Try.results7, go_sem, c0, c1]) rfl ⟨⟨g, rfl, ?_⟩, ?_⟩
    · exact hbi4.apart' (Only.of_sets01 _ _ _ _) _ c0 (fun x e => by cases e) (fun x e => by cases e)
    · have b1 : Below w.heap.size w5 w1 := hO1.below (by omega) (by omega)
      have b2 : Below w.heap.size w1 w2 := hO2.below (by omega) (by have := hO1.size; omega)
      have b3 : Below w.heap.size w2 w3 := hO3.below (by omega) (by have := hO1.size; have := hO2.size; omega)
      have b4 : Below w.heap.size w3 w4 := hbe4.mono (by have := hO1.size; have := hO2.size; have := hO3.size; omega)
      exact (((((hbe.trans b1).trans b2).trans b3).trans b4).setCell (by show w.heap.size ≤ w.heap.size + 1 + 1; omega) _).setCell (by show w.heap.size ≤ w.heap.size + 1 + 1; omega) _

theorem fenAdd_any (x y : Int) (x0 : -9223372036854775808 ≤ x) (x1 : x ≤ 9223372036854775807) (y0 : -9223372036854775808 ≤ y) (y1 : y ≤ 9223372036854775807) (w : World) :
    Calls Try.prog 7 #[.agg #[.int .i64 x, .pointer none], .agg #[.int .i64 y, .pointer none]] w fun e w' => (∃ s p, e = .returned (.agg #[.int .i64 s, .pointer p]) ∧ FenIs w' (.agg #[.int .i64 s, .pointer p]) (x + y)) ∧ Below w.heap.size w w' := by
  by_cases h : -9223372036854775808 ≤ x + y ∧ x + y ≤ 9223372036854775807
  · exact (fenAdd_in x y x0 x1 y0 y1 h.1 h.2 w).mono fun e w' ⟨he, hb⟩ => ⟨⟨_, _, he, Or.inl ⟨rfl, h.1, h.2⟩⟩, hb⟩
  · exact (fenAdd_over x y x0 x1 y0 y1 (by omega) w).mono fun e w' ⟨⟨g, he, hbi⟩, hb⟩ => ⟨⟨_, _, he, Or.inr ⟨g, rfl, hbi, by omega⟩⟩, hb⟩

end Go.Proofs.Qxb6630415a
