import Derived.Test.Qxb6630415aW2
namespace Go.Proofs.Qxb6630415a
open Go.RowKit
attribute [local go_sem ↓] Go.wp_at_zero Go.wp_at_succ

/-- math/big.addVV_g at one word each; z lies in a block of its own. -/
theorem addVVg_1 (g gx gy : Nat) (cz cx cy : Nat) (x y : Int) (hx : 0 ≤ x) (hy : 0 ≤ y) (w : World)
    (hz : (w.cell? ⟨g, 0, none⟩).isSome = true) (hf : w.frozen? ⟨g, 0, none⟩ = false)
    (h0 : w.cell? ⟨gx, 0, none⟩ = some (.int .u64 x)) (h1 : w.cell? ⟨gy, 0, none⟩ = some (.int .u64 y)) :
    Calls Try.prog 16 #[.slice (some ⟨g, 0, none⟩) 1 cz, .slice (some ⟨gx, 0, none⟩) 1 cx, .slice (some ⟨gy, 0, none⟩) 1 cy] w fun e w' =>
      e = .returned (.int .u64 ((x + y) / 18446744073709551616)) ∧ ∃ n, w' = (w.setCell ⟨g, 0, none⟩ (.int .u64 ((x + y) % 18446744073709551616))).drewN n := by
  obtain ⟨z, hz⟩ := Option.isSome_iff_exists.mp hz
  go_enter Try.func16, Try.ntmps16
  go_wp2
  refine wp_loop_rounds 2 ?_
  rw [rounds_succ]
  go_wp2
  go_quiet ((go_at_call 32; exact Calls.quiet_of_same (bitsAdd_0 x y hx hy _)))
  go_wp2
  rw [rounds_succ]
  go_wp2
  go_ret
  exact ⟨rfl, _, rfl⟩

theorem enter29 (args : Array Value) (w : World) : (callFunc 29 args).run Try.prog w = .ok (.enter 16 args) w :=
  run_callFunc_twin (twin := Try.f16.name) Try.func29 (by kernel_rfl) (by kernel_rfl) (by kernel_rfl) (by kernel_rfl) Try.func16 (by kernel_rfl) (by kernel_rfl) (by kernel_rfl) args w


theorem setNew1 (w : World) (c : Array Value) (t : TypeId) (n : Nat) (v : Value) :
    ((w.alloc (.cells c t)).drewN n).setCell ⟨w.heap.size, 1, none⟩ v = (w.alloc (.cells (c.setIfInBounds 1 v) t)).drewN n :=
  congrArg (fun x => World.drewN x n) (World.setCell_alloc_at c t w.heap.size 1 v rfl)

/-- (nat).add at one word each. -/
theorem natAdd_c (za : Option Addr) (zn zc gx gy : Nat) (x y : Int) (hzc : zc ≤ 1) (hx : 0 ≤ x) (hy : 0 ≤ y) (w : World)
    (h0 : w.cell? ⟨gx, 0, none⟩ = some (.int .u64 x)) (h1 : w.cell? ⟨gy, 0, none⟩ = some (.int .u64 y)) (lo hi : Int)
    (hlo : (x + y) % 18446744073709551616 = lo) (hhi : (x + y) / 18446744073709551616 = hi) (hh : (hi == 0) = false) :
    Calls Try.prog 22 #[.slice za zn zc, .slice (some ⟨gx, 0, none⟩) 1 1, .slice (some ⟨gy, 0, none⟩) 1 1] w fun e w' =>
      e = .returned (.slice (some ⟨w.heap.size, 0, none⟩) 2 6) ∧ ∃ n, w' = (w.alloc (.cells #[.int .u64 lo, .int .u64 hi, .int .u64 0, .int .u64 0, .int .u64 0, .int .u64 0] 49)).drewN n := by
  have hltx : gx < w.heap.size := World.block_lt_of_cell? w _ h0
  have hlty : gy < w.heap.size := World.block_lt_of_cell? w _ h1
  have en := enter29
  go_enter Try.func22, Try.ntmps22
  go_wp2_with (go_at_call 28; refine (make2 _ _ _ hzc _).mono ?_; rintro e w' ⟨rfl, rfl⟩)
  go_region_held3 (fun w' => w'.cell? ⟨gx, 0, none⟩ = some (.int .u64 x) ∧ w'.cell? ⟨gy, 0, none⟩ = some (.int .u64 y) ∧ (w'.cell? ⟨w.heap.size, 0, none⟩).isSome = true ∧ w'.frozen? ⟨w.heap.size, 0, none⟩ = false) (simp [go_sem, *])
    (first | (go_at_call 16; refine (addVVg_1 _ _ _ _ _ _ x y hx hy _ ?_ ?_ ?_ ?_).mono ?_; (simp [go_sem, *]); (simp [go_sem, *]); (simp [go_sem, *]); (simp [go_sem, *]); rintro e w' ⟨rfl, n, rfl⟩))
  go_wp2_with (go_at_call 31; refine (norm_2 _ hi _ ?_ hh).mono ?_; (simp [go_sem, *]); rintro e w' ⟨rfl, rfl⟩)
  go_ret
  exact ⟨rfl, _, setNew1 _ _ _ _ _⟩

theorem natAdd_n (za : Option Addr) (zn zc gx gy : Nat) (x y : Int) (hzc : zc ≤ 1) (hx : 0 ≤ x) (hy : 0 ≤ y) (w : World)
    (h0 : w.cell? ⟨gx, 0, none⟩ = some (.int .u64 x)) (h1 : w.cell? ⟨gy, 0, none⟩ = some (.int .u64 y)) (lo : Int)
    (hlo : (x + y) % 18446744073709551616 = lo) (hhi : (x + y) / 18446744073709551616 = 0) (hh : (lo == 0) = false) :
    Calls Try.prog 22 #[.slice za zn zc, .slice (some ⟨gx, 0, none⟩) 1 1, .slice (some ⟨gy, 0, none⟩) 1 1] w fun e w' =>
      e = .returned (.slice (some ⟨w.heap.size, 0, none⟩) 1 6) ∧ ∃ n, w' = (w.alloc (.cells #[.int .u64 lo, .int .u64 0, .int .u64 0, .int .u64 0, .int .u64 0, .int .u64 0] 49)).drewN n := by
  have hltx : gx < w.heap.size := World.block_lt_of_cell? w _ h0
  have hlty : gy < w.heap.size := World.block_lt_of_cell? w _ h1
  have en := enter29
  go_enter Try.func22, Try.ntmps22
  go_wp2_with (go_at_call 28; refine (make2 _ _ _ hzc _).mono ?_; rintro e w' ⟨rfl, rfl⟩)
  go_region_held3 (fun w' => w'.cell? ⟨gx, 0, none⟩ = some (.int .u64 x) ∧ w'.cell? ⟨gy, 0, none⟩ = some (.int .u64 y) ∧ (w'.cell? ⟨w.heap.size, 0, none⟩).isSome = true ∧ w'.frozen? ⟨w.heap.size, 0, none⟩ = false) (simp [go_sem, *])
    (first | (go_at_call 16; refine (addVVg_1 _ _ _ _ _ _ x y hx hy _ ?_ ?_ ?_ ?_).mono ?_; (simp [go_sem, *]); (simp [go_sem, *]); (simp [go_sem, *]); (simp [go_sem, *]); rintro e w' ⟨rfl, n, rfl⟩))
  go_wp2_with (go_at_call 31; refine (norm_1 _ lo _ ?_ ?_ hh).mono ?_; (simp [go_sem, *]); (simp [go_sem, *]); rintro e w' ⟨rfl, rfl⟩)
  go_ret
  exact ⟨rfl, _, setNew1 _ _ _ _ _⟩

theorem copy1 (w : World) (gx cx : Nat) (x : Int) (h0 : w.cell? ⟨gx, 0, none⟩ = some (.int .u64 x)) :
    (Builtin.copy_ #[32, 32] 3 #[.slice (some ⟨w.heap.size, 0, none⟩) 1 1, .slice (some ⟨gx, 0, none⟩) 1 cx]).run Try.prog (w.alloc (.cells #[.int .u64 0] 49)) =
      .ok (.int .i64 1) (w.alloc (.cells #[.int .u64 x] 49)) := by
  have hltx : gx < w.heap.size := World.block_lt_of_cell? w _ h0
  refine (run_copy_cells (P := Try.prog) (w.alloc (.cells #[.int .u64 0] 49)) 32 32 3 49 w.heap.size 0 1 1 ⟨gx, 0, none⟩ 1 cx [.int .u64 x] Try.underlying32 (by kernel_rfl) (by rfl) ?_ ?_ ?_ ?_).trans ?_
  · intro j v hj
    match j, hj with
    | 0, hj => simp at hj; subst hj; show (w.alloc _).cell? ⟨gx, 0, none⟩ = _; rw [World.cell?_alloc_past _ _ _ hltx]; exact h0
    | j + 1, hj => simp at hj
  · intro j hj
    match j, hj with
    | 0, hj => simp
    | j + 1, hj => simp at hj
  · intro j hj
    simp
  · intro v hv
    simp at hv; subst hv; rfl
  · show Result.ok _ ((w.alloc _).setCell _ _) = _
    rw [World.setCell_alloc_at _ _ _ _ _ rfl]
    rfl

theorem copy2 (w : World) (gx cx : Nat) (x y : Int) (h0 : w.cell? ⟨gx, 0, none⟩ = some (.int .u64 x)) (h1 : w.cell? ⟨gx, 1, none⟩ = some (.int .u64 y)) :
    (Builtin.copy_ #[32, 32] 3 #[.slice (some ⟨w.heap.size, 0, none⟩) 2 6, .slice (some ⟨gx, 0, none⟩) 2 cx]).run Try.prog (w.alloc (.cells #[.int .u64 0, .int .u64 0, .int .u64 0, .int .u64 0, .int .u64 0, .int .u64 0] 49)) =
      .ok (.int .i64 2) (w.alloc (.cells #[.int .u64 x, .int .u64 y, .int .u64 0, .int .u64 0, .int .u64 0, .int .u64 0] 49)) := by
  have hltx : gx < w.heap.size := World.block_lt_of_cell? w _ h0
  refine (run_copy_cells (P := Try.prog) _ 32 32 3 49 w.heap.size 0 2 6 ⟨gx, 0, none⟩ 2 cx [.int .u64 x, .int .u64 y] Try.underlying32 (by kernel_rfl) (by rfl) ?_ ?_ ?_ ?_).trans ?_
  · intro j v hj
    match j, hj with
    | 0, hj => simp at hj; subst hj; show (w.alloc _).cell? ⟨gx, 0, none⟩ = _; rw [World.cell?_alloc_past _ _ _ hltx]; exact h0
    | 1, hj => simp at hj; subst hj; show (w.alloc _).cell? ⟨gx, 1, none⟩ = _; rw [World.cell?_alloc_past _ _ _ hltx]; exact h1
    | j + 2, hj => simp at hj; try omega
  · intro j hj
    match j, hj with
    | 0, hj => simp
    | 1, hj => simp
    | j + 2, hj => simp at hj; try omega
  · intro j hj
    simp
  · intro v hv
    simp at hv; rcases hv with rfl | rfl <;> rfl
  · show Result.ok _ (((w.alloc _).setCell _ _).setCell _ _) = _
    rw [World.setCell_alloc_at _ _ _ _ _ rfl, World.setCell_alloc_at _ _ _ _ _ rfl]
    rfl

/-- (nat).set of one word, of two, into a nil nat. -/
theorem natSet_1 (gx cx : Nat) (x : Int) (w : World) (h0 : w.cell? ⟨gx, 0, none⟩ = some (.int .u64 x)) :
    Calls Try.prog 27 #[.slice none 0 0, .slice (some ⟨gx, 0, none⟩) 1 cx] w fun e w' =>
      e = .returned (.slice (some ⟨w.heap.size, 0, none⟩) 1 1) ∧ w' = w.alloc (.cells #[.int .u64 x] 49) := by
  have hcp := copy1 w gx cx x h0
  go_enter Try.func27, Try.ntmps27
  go_wp2_with (go_at_call 28; refine (make1 _).mono ?_; rintro e w' ⟨rfl, rfl⟩)
  go_ret
  exact ⟨rfl, rfl⟩

theorem natSet_2 (gx cx : Nat) (x y : Int) (w : World) (h0 : w.cell? ⟨gx, 0, none⟩ = some (.int .u64 x)) (h1 : w.cell? ⟨gx, 1, none⟩ = some (.int .u64 y)) :
    Calls Try.prog 27 #[.slice none 0 0, .slice (some ⟨gx, 0, none⟩) 2 cx] w fun e w' =>
      e = .returned (.slice (some ⟨w.heap.size, 0, none⟩) 2 6) ∧ w' = w.alloc (.cells #[.int .u64 x, .int .u64 y, .int .u64 0, .int .u64 0, .int .u64 0, .int .u64 0] 49) := by
  have hcp := copy2 w gx cx x y h0 h1
  go_enter Try.func27, Try.ntmps27
  go_wp2_with (go_at_call 28; refine (make2 _ _ _ (by omega) _).mono ?_; rintro e w' ⟨rfl, rfl⟩)
  go_ret
  exact ⟨rfl, rfl⟩

end Go.Proofs.Qxb6630415a
