import Derived.Test.Qxb6630415aWc
namespace Go.Proofs.Qxb6630415a
open Go.RowKit
attribute [local go_sem ↓] Go.wp_at_zero Go.wp_at_succ
attribute [local go_sem] alloc_drewN setCell_drewN

theorem fenOf_at (s : Int) (w : World) :
    Calls Try.prog 5 #[.int .i64 s] w fun e w' => e = .returned (.agg #[.int .i64 s, .pointer none]) ∧ w' = w.alloc (.cells #[.int .i64 s, .pointer none] 24) := by
  go_enter Try.func5, Try.ntmps5
  go_wp2
  exact bodyPost_ret (v := .agg #[.int .i64 s, .pointer none]) (by simp [results, Try.results5, go_sem]) rfl ⟨rfl, rfl⟩

theorem bcell {W w1 : World} (hb : Below W.heap.size W w1) : (∀ b o, b < W.heap.size → w1.cell? ⟨b, o, none⟩ = W.cell? ⟨b, o, none⟩) ∧ (∀ b o, b < W.heap.size → w1.frozen? ⟨b, o, none⟩ = W.frozen? ⟨b, o, none⟩) :=
  ⟨fun b o h => hb.cell (p := ⟨b, o, none⟩) h, fun b o h => hb.frozen (p := ⟨b, o, none⟩) h⟩

theorem start6 (w : World) (o0 o1 o2 o3 o4 o5 : Obj) :
    ((((((w.alloc o0).alloc o1).alloc o2).alloc o3).alloc o4).alloc o5).heap[w.heap.size + 1]? = some o1 ∧
    ((((((w.alloc o0).alloc o1).alloc o2).alloc o3).alloc o4).alloc o5).heap[w.heap.size + 1 + 1 + 1]? = some o3 ∧
    ((((((w.alloc o0).alloc o1).alloc o2).alloc o3).alloc o4).alloc o5).heap[w.heap.size + 1 + 1 + 1 + 1 + 1]? = some o5 ∧
    Below w.heap.size w ((((((w.alloc o0).alloc o1).alloc o2).alloc o3).alloc o4).alloc o5) ∧ w.heap.size ≤ ((((((w.alloc o0).alloc o1).alloc o2).alloc o3).alloc o4).alloc o5).heap.size := by
  obtain ⟨⟨_, h1, _, h3, _⟩, hb, hs⟩ := start5 w o0 o1 o2 o3 o4
  exact ⟨(Below.heap_alloc _ _ _ (heap_lt h1)).trans h1, (Below.heap_alloc _ _ _ (heap_lt h3)).trans h3, heap_new _ _ _ (by simp), hb.alloc (by omega) _, by simp; omega⟩

theorem sign3_shift (a b c : Int) : sign3 (a + c) (b + c) = sign3 a b := by
  unfold sign3; split <;> split <;> (try split) <;> (try split) <;> omega
theorem sign3_swap (a b : Int) : sign3 b a = -(sign3 a b) := by
  unfold sign3; split <;> split <;> (try split) <;> (try split) <;> omega

theorem law_shift (a b c : Int) (a0 : -9223372036854775808 ≤ a) (a1 : a ≤ 9223372036854775807) (b0 : -9223372036854775808 ≤ b) (b1 : b ≤ 9223372036854775807)
    (c0 : -9223372036854775808 ≤ c) (c1 : c ≤ 9223372036854775807) (w : World) :
    Calls Try.prog 3 #[.int .i64 a, .int .i64 b, .int .i64 c] w fun e w' => e = .returned (.bool true) ∧ Below w.heap.size w w' := by
  have hbd := sign3_bd a b
  have hst := start6 w (.cells #[.int .i64 a, .pointer none] 24) (.cells #[.int .i64 a, .pointer none] 24) (.cells #[.int .i64 b, .pointer none] 24) (.cells #[.int .i64 b, .pointer none] 24) (.cells #[.int .i64 c, .pointer none] 24) (.cells #[.int .i64 c, .pointer none] 24)
  go_enter Try.func3, Try.ntmps3
  go_wp2_with (first | (go_at_call 5; refine (fenOf_at _ _).mono ?_; rintro e w' ⟨rfl, rfl⟩) | (go_at_call 6; refine (sign3_any _ _ _).mono ?_; rintro e w' ⟨rfl, rfl⟩))
  generalize ((((((w.alloc (.cells #[.int .i64 a, .pointer none] 24)).alloc (.cells #[.int .i64 a, .pointer none] 24)).alloc (.cells #[.int .i64 b, .pointer none] 24)).alloc (.cells #[.int .i64 b, .pointer none] 24)).alloc (.cells #[.int .i64 c, .pointer none] 24)).alloc (.cells #[.int .i64 c, .pointer none] 24)) = w6 at *
  obtain ⟨hx, hy, hz, hb6, hs6⟩ := hst
  refine (fenAdd_any a c a0 a1 c0 c1 _).mono ?_
  rintro e w7 ⟨⟨s1, p1, rfl, hF1⟩, hb7⟩
  have y0 : w7.cell? ⟨w.heap.size + 1 + 1 + 1, 0, none⟩ = some (.int .i64 b) := cell_later hb7 (cell_of_heap hy)
  have y1 : w7.cell? ⟨w.heap.size + 1 + 1 + 1, 1, none⟩ = some (.pointer none) := cell_later hb7 (cell_of_heap hy)
  have z0 : w7.cell? ⟨w.heap.size + 1 + 1 + 1 + 1 + 1, 0, none⟩ = some (.int .i64 c) := cell_later hb7 (cell_of_heap hz)
  have z1 : w7.cell? ⟨w.heap.size + 1 + 1 + 1 + 1 + 1, 1, none⟩ = some (.pointer none) := cell_later hb7 (cell_of_heap hz)
  have ly : w.heap.size + 1 + 1 + 1 < w7.heap.size := World.block_lt_of_cell? _ _ y0
  have lz : w.heap.size + 1 + 1 + 1 + 1 + 1 < w7.heap.size := World.block_lt_of_cell? _ _ z0
  have hb7' : Below w.heap.size w w7 := hb6.trans (hb7.mono hs6)
  clear hx hy hz hb6 hb7 hs6
  go_wp2_with fail
  refine (fenAdd_any b c b0 b1 c0 c1 _).mono ?_
  rintro e w8 ⟨⟨s2, p2, rfl, hF2⟩, hb8⟩
  have u0 : w8.cell? ⟨w7.heap.size, 0, none⟩ = some (.int .i64 s1) := cell_later hb8 (cell_of_heap (heap_new w7 _ _ rfl))
  have u1 : w8.cell? ⟨w7.heap.size, 1, none⟩ = some (.pointer p1) := cell_later hb8 (cell_of_heap (heap_new w7 _ _ rfl))
  have lu : w7.heap.size < w8.heap.size := World.block_lt_of_cell? _ _ u0
  have hF1 : FenIs w8 (.agg #[.int .i64 s1, .pointer p1]) (a + c) := (hF1.later ((Below.refl _ _).alloc (Nat.le_refl _) _)).later hb8
  have hb8' : Below w.heap.size w w8 := (hb7'.alloc hb7'.size _).trans (hb8.mono (by have := hb7'.size; simp; omega))
  clear hb8 hb7' y0 y1 z0 z1 ly lz
  go_wp2_with fail
  have ha9 : Below w8.heap.size w8 (w8.alloc (.cells #[.int .i64 s2, .pointer p2] 24)) := (Below.refl _ _).alloc (Nat.le_refl _) _
  refine (fenCmp_any s1 s2 p1 p2 (a + c) (b + c) _ (hF1.later ha9) (hF2.later ha9)).mono ?_
  rintro e w9 ⟨rfl, hb9⟩
  have t0 : w9.cell? ⟨w7.heap.size, 0, none⟩ = some (.int .i64 s1) := cell_later hb9 (cell_later ha9 u0)
  have t1 : w9.cell? ⟨w7.heap.size, 1, none⟩ = some (.pointer p1) := cell_later hb9 (cell_later ha9 u1)
  have v0 : w9.cell? ⟨w8.heap.size, 0, none⟩ = some (.int .i64 s2) := cell_later hb9 (cell_of_heap (heap_new w8 _ _ rfl))
  have v1 : w9.cell? ⟨w8.heap.size, 1, none⟩ = some (.pointer p2) := cell_later hb9 (cell_of_heap (heap_new w8 _ _ rfl))
  have hF1' := (hF1.later ha9).later hb9
  have hF2' := (hF2.later ha9).later hb9
  have hb9' : Below w.heap.size w w9 := (hb8'.alloc hb8'.size _).trans (hb9.mono (by have := hb8'.size; simp; omega))
  rw [sign3_shift]
  clear hb9 ha9 hF1 hF2 hb8' u0 u1 lu
  go_wp2_with fail
  refine (fenCmp_any s2 s1 p2 p1 (b + c) (a + c) _ hF2' hF1').mono ?_
  rintro e w10 ⟨rfl, hb10⟩
  rw [sign3_shift, sign3_swap a b]
  go_wp2
  go_ret
  exact ⟨rfl, hb9'.trans (hb10.mono hb9'.size)⟩

end Go.Proofs.Qxb6630415a
