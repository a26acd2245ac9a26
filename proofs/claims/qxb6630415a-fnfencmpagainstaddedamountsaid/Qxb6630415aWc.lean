import Derived.Test.Qxb6630415aWb
namespace Go.Proofs.Qxb6630415a
open Go.RowKit
attribute [local go_sem ↓] Go.wp_at_zero Go.wp_at_succ
attribute [local go_sem] alloc_drewN setCell_drewN

theorem fenCmp_ss (x y : Int) (w : World) :
    Calls Try.prog 8 #[.agg #[.int .i64 x, .pointer none], .agg #[.int .i64 y, .pointer none]] w fun e w' => e = .returned (.int .i64 (sign3 x y)) ∧ Below w.heap.size w w' := by
  by_cases hlt : x < y
  · go_enter Try.func8, Try.ntmps8
    go_wp2
    go_ret
    exact ⟨ret_int (sign3_lt hlt), ((Below.refl _ _).alloc (Nat.le_refl _) _).alloc (by simp) _⟩
  · by_cases hgt : y < x
    · go_enter Try.func8, Try.ntmps8
      go_wp2
      go_ret
      exact ⟨ret_int (sign3_gt hgt), ((Below.refl _ _).alloc (Nat.le_refl _) _).alloc (by simp) _⟩
    · go_enter Try.func8, Try.ntmps8
      go_wp2
      go_ret
      exact ⟨ret_int (sign3_eq (by omega)), ((Below.refl _ _).alloc (Nat.le_refl _) _).alloc (by simp) _⟩

/-- (Fen).BigInt at whatever Fen. -/
theorem bigInt_any (b : Nat) (s : Int) (p : Option Addr) (v : Int) (w : World) (hz : Zero w b) (h : FenIs w (.agg #[.int .i64 s, .pointer p]) v) :
    Calls Try.prog 11 #[.agg #[.int .i64 s, .pointer p], .pointer (some ⟨b, 0, none⟩)] w fun e w' => e = .returned (.pointer (some ⟨b, 0, none⟩)) ∧ Only b w w' ∧ BI w' b v := by
  rcases h with ⟨h, v0, v1⟩ | ⟨g, h, hg, hv⟩
  · simp at h
    obtain ⟨rfl, rfl⟩ := h
    exact (bigInt_small b s v0 v1 w hz).mono fun e w' ⟨he, ho, hb, _⟩ => ⟨he, ho, hb⟩
  · simp at h
    obtain ⟨rfl, rfl⟩ := h
    by_cases hne : b = g
    · subst hne
      obtain ⟨a, n, c, hh, hn, -⟩ := hg
      rw [hz] at hh
      simp at hh
      obtain ⟨_, rfl, rfl, rfl⟩ := hh
      rcases hn with ⟨h, _⟩ | ⟨_, _, h, _⟩ | ⟨_, h, _⟩
      · omega
      · omega
      · omega
    · exact bigInt_wide b g v w hz hg hv hne

theorem start4 (w : World) (o0 o1 o3 o4 : Obj) :
    (((((w.alloc o0).alloc o1).alloc o3).alloc o4).heap[w.heap.size]? = some o0 ∧ ((((w.alloc o0).alloc o1).alloc o3).alloc o4).heap[w.heap.size + 1]? = some o1 ∧
    ((((w.alloc o0).alloc o1).alloc o3).alloc o4).heap[w.heap.size + 1 + 1]? = some o3 ∧
    ((((w.alloc o0).alloc o1).alloc o3).alloc o4).heap[w.heap.size + 1 + 1 + 1]? = some o4) ∧ Below w.heap.size w ((((w.alloc o0).alloc o1).alloc o3).alloc o4) ∧ 
      ((((w.alloc o0).alloc o1).alloc o3).alloc o4).heap.size = w.heap.size + 4 := by
  refine ⟨⟨?_, ?_, ?_, ?_⟩, ?_, by simp⟩
  · rw [Below.heap_alloc _ _ _ (by simp only [World.size_alloc]; omega), Below.heap_alloc _ _ _ (by simp only [World.size_alloc]; omega), Below.heap_alloc _ _ _ (by simp)]; exact heap_new _ _ _ (by simp)
  · rw [Below.heap_alloc _ _ _ (by simp only [World.size_alloc]; omega), Below.heap_alloc _ _ _ (by simp)]; exact heap_new _ _ _ (by simp)
  · rw [Below.heap_alloc _ _ _ (by simp)]; exact heap_new _ _ _ (by simp)
  · exact heap_new _ _ _ (by simp)
  · exact ((((Below.refl _ w).alloc (Nat.le_refl _) _).alloc (by simp) _).alloc (by simp; omega) _).alloc (by simp; omega) _

theorem Zero.cell0 {w : World} {b : Nat} (h : Zero w b) : w.cell? ⟨b, 0, none⟩ = some (.bool false) := cell_of_heap h
theorem BI.ne_zero {w : World} {b g : Nat} {v : Int} (h : BI w g v) (hv : v ≠ 0) (hz : Zero w b) : g ≠ b := by
  rintro rfl
  obtain ⟨a, n, c, hh, hn, -⟩ := h
  rw [hz] at hh
  simp at hh
  obtain ⟨_, rfl, rfl, rfl⟩ := hh
  rcases hn with ⟨h, _⟩ | ⟨_, _, h, _⟩ | ⟨_, h, _⟩
  · omega
  · omega
  · omega
theorem FenIs.only {w w' : World} {f : Value} {v : Int} {b : Nat} (h : FenIs w f v) (ho : Only b w w') (hz : Zero w b) : FenIs w' f v := by
  rcases h with h | ⟨g, h1, h2, h3⟩
  · exact Or.inl h
  · exact Or.inr ⟨g, h1, h2.apart ho (h2.ne_zero h3 hz) _ hz.cell0 (fun x e => by cases e), h3⟩

theorem fenCmp_wide (s t : Int) (p q : Option Addr) (hw : (p.isNone && q.isNone) = false) (x y : Int) (w : World)
    (hx : FenIs w (.agg #[.int .i64 s, .pointer p]) x) (hy : FenIs w (.agg #[.int .i64 t, .pointer q]) y) :
    Calls Try.prog 8 #[.agg #[.int .i64 s, .pointer p], .agg #[.int .i64 t, .pointer q]] w fun e w' => e = .returned (.int .i64 (sign3 x y)) ∧ Below w.heap.size w w' := by
  have hfacts := start4 w (.cells #[.int .i64 s, .pointer p] 24) (.cells #[.int .i64 t, .pointer q] 24) (.cells #[.bool false, .slice none 0 0] 34) (.cells #[.bool false, .slice none 0 0] 34)
  have hx4 := hx.later hfacts.2.1
  have hy4 := hy.later hfacts.2.1
  clear hx hy
  rcases p with _ | a <;> rcases q with _ | c
  · simp at hw
  all_goals
    clear hw
    go_enter Try.func8, Try.ntmps8
    go_wp2
    generalize ((((w.alloc (.cells #[.int .i64 s, .pointer _] 24)).alloc (.cells #[.int .i64 t, .pointer _] 24)).alloc (.cells #[.bool false, .slice none 0 0] 34)).alloc (.cells #[.bool false, .slice none 0 0] 34)) = w4 at *
    obtain ⟨⟨hN0, hN1, hz2, hz3⟩, hbe, hsz⟩ := hfacts
    have hst : Stage w.heap.size (.int .i64 s) (.int .i64 t) _ _ w4 := ⟨hN0, hN1⟩
    obtain ⟨k0, k1, k2, k3⟩ := hst.cells
    clear hN0 hN1
    go_region_with (first
      | (go_at_call_of 11 s; go_must (refine (bigInt_any _ s _ x _ ?_ ?_).mono ?_; exact hz2; exact hx4; rintro e w1 ⟨rfl, hO1', hbi1⟩; have hO1 := hO1'.of_drew1; obtain ⟨m0, m1, m2, m3⟩ := (hst.only hO1 (by omega)).cells))
      | (go_at_call_of 11 t; go_must (refine (bigInt_any _ t _ y _ ?_ ?_).mono ?_; exact Zero.only hz3 hO1 (by omega); exact FenIs.only hy4 hO1 hz2; rintro e w2 ⟨rfl, hO2, hbi2⟩))
      | (go_at_call 12; go_must (refine (intCmp_any _ _ x y _ (by omega) ?_ hbi2).mono ?_; exact BI.apart hbi1 hO2 (by omega) _ (Zero.cell0 (Zero.only hz3 hO1 (by omega))) (fun x e => by cases e); rintro e w3 ⟨rfl, nn, rfl⟩)))
    all_goals go_wp2
    all_goals
      go_ret
      have b1 : Below w.heap.size w4 w1 := hO1.below (by omega) (by omega)
      have b2 : Below w.heap.size w1 w2 := hO2.below (by omega) (by have := hO1.size; omega)
      exact ⟨rfl, below_drewN ((hbe.trans b1).trans b2) _⟩

theorem fenCmp_any (s t : Int) (p q : Option Addr) (x y : Int) (w : World)
    (hx : FenIs w (.agg #[.int .i64 s, .pointer p]) x) (hy : FenIs w (.agg #[.int .i64 t, .pointer q]) y) :
    Calls Try.prog 8 #[.agg #[.int .i64 s, .pointer p], .agg #[.int .i64 t, .pointer q]] w fun e w' => e = .returned (.int .i64 (sign3 x y)) ∧ Below w.heap.size w w' := by
  cases hw : (p.isNone && q.isNone) with
  | false => exact fenCmp_wide s t p q hw x y w hx hy
  | true =>
    simp at hw
    obtain ⟨rfl, rfl⟩ := hw
    rcases hx with ⟨h, _⟩ | ⟨g, h, _⟩
    · rcases hy with ⟨h', _⟩ | ⟨g, h', _⟩
      · simp at h h'
        subst h h'
        exact fenCmp_ss _ _ w
      · simp at h'
    · simp at h

end Go.Proofs.Qxb6630415a
