import Derived.Test.Qxb6630415aW5
namespace Go.Proofs.Qxb6630415a
open Go.RowKit
attribute [local go_sem ↓] Go.wp_at_zero Go.wp_at_succ

theorem alloc_drewN (w : World) (o : Obj) (n : Nat) : (w.drewN n).alloc o = (w.alloc o).drewN n := rfl
theorem setCell_drewN (w : World) (a : Addr) (v : Value) (n : Nat) : (w.drewN n).setCell a v = (w.setCell a v).drewN n := rfl
attribute [local go_sem] alloc_drewN setCell_drewN

theorem intAdd_n (ba bb gx gy : Nat) (neg : Bool) (x y : Int) (w : World)
    (hb : w.heap[ba]? = some (.cells #[.bool neg, .slice (some ⟨gx, 0, none⟩) 1 1] 34))
    (hx : w.heap[bb]? = some (.cells #[.bool neg, .slice (some ⟨gy, 0, none⟩) 1 1] 34))
    (h0 : w.cell? ⟨gx, 0, none⟩ = some (.int .u64 x)) (h1 : w.cell? ⟨gy, 0, none⟩ = some (.int .u64 y)) (hx0 : 0 ≤ x) (hy0 : 0 ≤ y) (lo : Int)
    (hlo : (x + y) % 18446744073709551616 = lo) (hhi : (x + y) / 18446744073709551616 = 0) (hh : (lo == 0) = false) :
    Calls Try.prog 10 #[.pointer (some ⟨ba, 0, none⟩), .pointer (some ⟨ba, 0, none⟩), .pointer (some ⟨bb, 0, none⟩)] w fun e w' => e = .returned (.pointer (some ⟨ba, 0, none⟩)) ∧ 
      ∃ n, w' = (((w.setCell ⟨ba, 1, none⟩ (.slice (some ⟨w.heap.size, 0, none⟩) 1 6)).setCell ⟨ba, 0, none⟩ (.bool neg)).alloc (.cells #[.int .u64 lo, .int .u64 0, .int .u64 0, .int .u64 0, .int .u64 0, .int .u64 0] 49)).drewN n := by
  have hlt : ba < w.heap.size := heap_lt hb
  have hltx : bb < w.heap.size := heap_lt hx
  have hc0 := cell_of_heap (i := 0) hb
  have hc1 := cell_of_heap (i := 1) hb
  have hf0 := frozen_of_heap (i := 0) hb
  have hf1 := frozen_of_heap (i := 1) hb
  have hd0 := cell_of_heap (i := 0) hx
  have hd1 := cell_of_heap (i := 1) hx
  have Hlo : Hid ((x + y) % 18446744073709551616 = lo) := hlo
  have Hhi : Hid ((x + y) / 18446744073709551616 = 0) := hhi
  clear hlo hhi
  simp at hc0 hc1 hd0 hd1
  clear hb hx
  go_enter Try.func10, Try.ntmps10
  go_wp2
  go_quiet (fail)
  go_wp2
  go_region_with (first | (go_at_call 22; refine (natAdd_n _ _ _ gx gy x y (by omega) hx0 hy0 _ ?_ ?_ lo Hlo.out Hhi.out hh).mono ?_; (simp [go_sem, *]); (simp [go_sem, *]); rintro e w' ⟨rfl, n, rfl⟩))
  all_goals go_wp2
  all_goals (go_ret; refine ⟨rfl, ?_⟩)
  all_goals exact ⟨_, rfl⟩

theorem intAdd_c (ba bb gx gy : Nat) (neg : Bool) (x y : Int) (w : World)
    (hb : w.heap[ba]? = some (.cells #[.bool neg, .slice (some ⟨gx, 0, none⟩) 1 1] 34))
    (hx : w.heap[bb]? = some (.cells #[.bool neg, .slice (some ⟨gy, 0, none⟩) 1 1] 34))
    (h0 : w.cell? ⟨gx, 0, none⟩ = some (.int .u64 x)) (h1 : w.cell? ⟨gy, 0, none⟩ = some (.int .u64 y)) (hx0 : 0 ≤ x) (hy0 : 0 ≤ y) (lo hi : Int)
    (hlo : (x + y) % 18446744073709551616 = lo) (hhi : (x + y) / 18446744073709551616 = hi) (hh : (hi == 0) = false) :
    Calls Try.prog 10 #[.pointer (some ⟨ba, 0, none⟩), .pointer (some ⟨ba, 0, none⟩), .pointer (some ⟨bb, 0, none⟩)] w fun e w' => e = .returned (.pointer (some ⟨ba, 0, none⟩)) ∧ 
      ∃ n, w' = (((w.setCell ⟨ba, 1, none⟩ (.slice (some ⟨w.heap.size, 0, none⟩) 2 6)).setCell ⟨ba, 0, none⟩ (.bool neg)).alloc (.cells #[.int .u64 lo, .int .u64 hi, .int .u64 0, .int .u64 0, .int .u64 0, .int .u64 0] 49)).drewN n := by
  have hlt : ba < w.heap.size := heap_lt hb
  have hltx : bb < w.heap.size := heap_lt hx
  have hc0 := cell_of_heap (i := 0) hb
  have hc1 := cell_of_heap (i := 1) hb
  have hf0 := frozen_of_heap (i := 0) hb
  have hf1 := frozen_of_heap (i := 1) hb
  have hd0 := cell_of_heap (i := 0) hx
  have hd1 := cell_of_heap (i := 1) hx
  have Hlo : Hid ((x + y) % 18446744073709551616 = lo) := hlo
  have Hhi : Hid ((x + y) / 18446744073709551616 = hi) := hhi
  clear hlo hhi
  simp at hc0 hc1 hd0 hd1
  clear hb hx
  go_enter Try.func10, Try.ntmps10
  go_wp2
  go_quiet (fail)
  go_wp2
  go_region_with (first | (go_at_call 22; refine (natAdd_c _ _ _ gx gy x y (by omega) hx0 hy0 _ ?_ ?_ lo hi Hlo.out Hhi.out hh).mono ?_; (simp [go_sem, *]); (simp [go_sem, *]); rintro e w' ⟨rfl, n, rfl⟩))
  all_goals go_wp2
  all_goals (go_ret; refine ⟨rfl, ?_⟩)
  all_goals exact ⟨_, rfl⟩


end Go.Proofs.Qxb6630415a
