import Derived.Test.Qxb6630415aW1
import Derived.Shelf.Spec.BitsCarry
namespace Go.Proofs.Qxb6630415a
open Go.RowKit

/-! ### SetInt64 on a zero big.Int at block b -/
theorem negWord (x : Int) (h0 : -9223372036854775808 ≤ x) (h1 : x < 0) : IntKind.u64.wrap (wrap64 (-x)) = -x := by
  rw [IntKind.wrap_u64]; unfold wrap64; omega
theorem posWord (x : Int) (h0 : 0 ≤ x) (h1 : x ≤ 9223372036854775807) : IntKind.u64.wrap x = x := by
  rw [IntKind.wrap_u64]; omega

theorem setInt64_pos (b : Nat) (x : Int) (hx : 0 < x) (h1 : x ≤ 9223372036854775807) (w : World)
    (hc0 : w.cell? ⟨b, 0, none⟩ = some (.bool false)) (hc1 : w.cell? ⟨b, 1, none⟩ = some (.slice none 0 0))
    (hf0 : w.frozen? ⟨b, 0, none⟩ = false) (hf1 : w.frozen? ⟨b, 1, none⟩ = false) :
    Calls Try.prog 25 #[.pointer (some ⟨b, 0, none⟩), .int .i64 x] w fun e w' => e = .returned (.pointer (some ⟨b, 0, none⟩)) ∧ 
      w' = ((w.setCell ⟨b, 1, none⟩ (.slice (some ⟨w.heap.size, 0, none⟩) 1 1)).setCell ⟨b, 0, none⟩ (.bool false)).alloc (.cells #[.int .u64 x] 49) := by
  have hlt : b < w.heap.size := World.block_lt_of_cell? w _ hc0
  have hx0 : (x == 0) = false := by simp; omega
  have hw := posWord x (by omega) h1
  go_enter Try.func25, Try.ntmps25
  go_wp2_with (go_at_call 36; refine (setUint64_any x hx0 _).mono ?_; rintro e w' ⟨rfl, rfl⟩)
  go_ret
  exact ⟨rfl, rfl⟩

theorem setInt64_zero (b : Nat) (w : World)
    (hc0 : w.cell? ⟨b, 0, none⟩ = some (.bool false)) (hc1 : w.cell? ⟨b, 1, none⟩ = some (.slice none 0 0))
    (hf0 : w.frozen? ⟨b, 0, none⟩ = false) (hf1 : w.frozen? ⟨b, 1, none⟩ = false) :
    Calls Try.prog 25 #[.pointer (some ⟨b, 0, none⟩), .int .i64 0] w fun e w' => e = .returned (.pointer (some ⟨b, 0, none⟩)) ∧ 
      w' = (w.setCell ⟨b, 1, none⟩ (.slice none 0 0)).setCell ⟨b, 0, none⟩ (.bool false) := by
  have hlt : b < w.heap.size := World.block_lt_of_cell? w _ hc0
  go_enter Try.func25, Try.ntmps25
  go_wp2_with (go_at_call 36; refine (setUint64_zero _).mono ?_; rintro e w' ⟨rfl, rfl⟩)
  go_ret
  exact ⟨rfl, rfl⟩

theorem setInt64_neg (b : Nat) (x : Int) (hx : x < 0) (h1 : -9223372036854775808 ≤ x) (w : World)
    (hc0 : w.cell? ⟨b, 0, none⟩ = some (.bool false)) (hc1 : w.cell? ⟨b, 1, none⟩ = some (.slice none 0 0))
    (hf0 : w.frozen? ⟨b, 0, none⟩ = false) (hf1 : w.frozen? ⟨b, 1, none⟩ = false) :
    Calls Try.prog 25 #[.pointer (some ⟨b, 0, none⟩), .int .i64 x] w fun e w' => e = .returned (.pointer (some ⟨b, 0, none⟩)) ∧ 
      w' = ((w.setCell ⟨b, 1, none⟩ (.slice (some ⟨w.heap.size, 0, none⟩) 1 1)).setCell ⟨b, 0, none⟩ (.bool true)).alloc (.cells #[.int .u64 (-x)] 49) := by
  have hlt : b < w.heap.size := World.block_lt_of_cell? w _ hc0
  have hx0 : ((-x) == 0) = false := by simp; omega
  have hw := negWord x h1 hx
  go_enter Try.func25, Try.ntmps25
  go_wp2_with (go_at_call 36; refine (setUint64_any (-x) hx0 _).mono ?_; rintro e w' ⟨rfl, rfl⟩)
  go_ret
  exact ⟨rfl, rfl⟩

theorem add64 (x y c : Int) (hx : 0 ≤ x) (hy : 0 ≤ y) (hc0 : 0 ≤ c) (hc : c ≤ 1) (w : World) : (callFunc 38 #[.int .u64 x, .int .u64 y, .int .u64 c]).run Try.prog w =
    .ok (.value (.tuple #[.int .u64 ((x + y + c) % 18446744073709551616), .int .u64 ((x + y + c) / 18446744073709551616)])) w := by
  obtain ⟨x, rfl⟩ := Int.eq_ofNat_of_zero_le hx
  obtain ⟨y, rfl⟩ := Int.eq_ofNat_of_zero_le hy
  obtain ⟨c, rfl⟩ := Int.eq_ofNat_of_zero_le hc0
  rw [run_callFunc_extern Try.func38 (by kernel_rfl) (by kernel_rfl) (by kernel_rfl) (e := add64Entry) (by kernel_rfl), run_add64 x y c (by omega) (by omega) (by omega) (by omega)]
  simp only [Result.andThen]

theorem add64_0 (x y : Int) (hx : 0 ≤ x) (hy : 0 ≤ y) (w : World) : (callFunc 38 #[.int .u64 x, .int .u64 y, .int .u64 0]).run Try.prog w =
    .ok (.value (.tuple #[.int .u64 ((x + y) % 18446744073709551616), .int .u64 ((x + y) / 18446744073709551616)])) w := by
  simpa using add64 x y 0 hx hy (Int.le_refl 0) (by decide) w

theorem bitsAdd_0 (x y : Int) (hx : 0 ≤ x) (hy : 0 ≤ y) (w : World) :
    Calls Try.prog 32 #[.int .u64 x, .int .u64 y, .int .u64 0] w fun e w' =>
      e = .returned (.tuple #[.int .u64 ((x + y) % 18446744073709551616), .int .u64 ((x + y) / 18446744073709551616)]) ∧ w' = w := by
  go_enter Try.func32, Try.ntmps32
  go_wp2_with (simp only [add64_0 x y hx hy])
  go_ret2
  exact ⟨rfl, rfl⟩

/-- (nat).norm at two words. -/
theorem norm_2 (g : Nat) (hi : Int) (w : World) (h1 : w.cell? ⟨g, 1, none⟩ = some (.int .u64 hi)) (hh : (hi == 0) = false) :
    Calls Try.prog 31 #[.slice (some ⟨g, 0, none⟩) 2 6] w fun e w' => e = .returned (.slice (some ⟨g, 0, none⟩) 2 6) ∧ w' = w := by
  go_enter Try.func31, Try.ntmps31
  go_wp2
  refine wp_loop_rounds 1 ?_
  rw [rounds_succ]
  go_wp2
  go_ret
  exact ⟨rfl, rfl⟩

theorem norm_1 (g : Nat) (lo : Int) (w : World) (h0 : w.cell? ⟨g, 0, none⟩ = some (.int .u64 lo)) (h1 : w.cell? ⟨g, 1, none⟩ = some (.int .u64 0)) (hh : (lo == 0) = false) :
    Calls Try.prog 31 #[.slice (some ⟨g, 0, none⟩) 2 6] w fun e w' => e = .returned (.slice (some ⟨g, 0, none⟩) 1 6) ∧ w' = w := by
  go_enter Try.func31, Try.ntmps31
  go_wp2
  refine wp_loop_rounds 2 ?_
  rw [rounds_succ]
  go_wp2
  rw [rounds_succ]
  go_wp2
  go_ret
  exact ⟨rfl, rfl⟩

end Go.Proofs.Qxb6630415a
