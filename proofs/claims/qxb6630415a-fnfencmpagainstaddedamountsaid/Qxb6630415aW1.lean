import Derived.Test.Qxb6630415aRows
import Derived.WalkKit
import Derived.WalkSpells
import Derived.WalkLawsBesides
import Derived.StillTactics
import Derived.Laws.Pointers
import Derived.Laws.Twins
import Derived.Deep.RegionHeld3
import Derived.Deep.DrawnRows
import Derived.Deep.QuietTactic
import Derived.BigQuiet
import Derived.RowKit3
namespace Go.Proofs.Qxb6630415a
open Go.RowKit

def sign3 (a b : Int) : Int := if a < b then -1 else if b < a then 1 else 0

theorem sign3_any (a b : Int) (w : World) :
    Calls Try.prog 6 #[.int .i64 a, .int .i64 b] w fun e w' => e = .returned (.int .i64 (sign3 a b)) ∧ w' = w := by
  go_enter Try.func6, Try.ntmps6
  go_wp2
  all_goals (go_ret; simp [sign3, *])
  rw [if_neg (by omega), if_neg (by omega)]

theorem fenOf_any (s : Int) (w : World) :
    Calls Try.prog 5 #[.int .i64 s] w fun e w' => e = .returned (.agg #[.int .i64 s, .pointer none]) ∧ Below w.heap.size w w' := by
  go_enter Try.func5, Try.ntmps5
  go_wp2
  exact bodyPost_ret (v := .agg #[.int .i64 s, .pointer none]) (by simp [results, Try.results5, go_sem]) rfl ⟨rfl, (Below.refl _ _).alloc (Nat.le_refl _) _⟩

theorem mk1 (w : World) : (Instr.makeSlice 32 (.int .i64 1) (.int .i64 1)).run Try.prog w = .ok (.slice (some ⟨w.heap.size, 0, none⟩) 1 1) (w.alloc (.cells #[.int .u64 0] 49)) := by kernel_rfl
theorem mk2 (w : World) : (Instr.makeSlice 32 (.int .i64 2) (.int .i64 6)).run Try.prog w = .ok (.slice (some ⟨w.heap.size, 0, none⟩) 2 6) (w.alloc (.cells #[.int .u64 0, .int .u64 0, .int .u64 0, .int .u64 0, .int .u64 0, .int .u64 0] 49)) := by kernel_rfl

/-- (nat).make at a nil slice, or one whose capacity is 1. -/
theorem make1 (w : World) :
    Calls Try.prog 28 #[.slice none 0 0, .int .i64 1] w fun e w' => e = .returned (.slice (some ⟨w.heap.size, 0, none⟩) 1 1) ∧ w' = w.alloc (.cells #[.int .u64 0] 49) := by
  have hmk := mk1
  go_enter Try.func28, Try.ntmps28
  go_wp2
  go_ret
  exact ⟨rfl, rfl⟩

theorem make2 (a : Option Addr) (n c : Nat) (hc : c ≤ 1) (w : World) :
    Calls Try.prog 28 #[.slice a n c, .int .i64 2] w fun e w' => e = .returned (.slice (some ⟨w.heap.size, 0, none⟩) 2 6) ∧ w' = w.alloc (.cells #[.int .u64 0, .int .u64 0, .int .u64 0, .int .u64 0, .int .u64 0, .int .u64 0] 49) := by
  have hmk := mk2
  go_enter Try.func28, Try.ntmps28
  go_wp2
  go_ret
  exact ⟨rfl, rfl⟩

theorem setWord_any (x : Int) (hx : (x == 0) = false) (w : World) :
    Calls Try.prog 41 #[.slice none 0 0, .int .u64 x] w fun e w' => e = .returned (.slice (some ⟨w.heap.size, 0, none⟩) 1 1) ∧ w' = w.alloc (.cells #[.int .u64 x] 49) := by
  go_enter Try.func41, Try.ntmps41
  go_wp2_with (go_at_call 28; refine (make1 _).mono ?_; rintro e w' ⟨rfl, rfl⟩)
  go_ret
  exact ⟨rfl, rfl⟩

theorem setWord_zero (w : World) :
    Calls Try.prog 41 #[.slice none 0 0, .int .u64 0] w fun e w' => e = .returned (.slice none 0 0) ∧ w' = w := by
  go_enter Try.func41, Try.ntmps41
  go_wp2
  go_ret
  exact ⟨rfl, rfl⟩

theorem setUint64_any (x : Int) (hx : (x == 0) = false) (w : World) :
    Calls Try.prog 36 #[.slice none 0 0, .int .u64 x] w fun e w' => e = .returned (.slice (some ⟨w.heap.size, 0, none⟩) 1 1) ∧ w' = w.alloc (.cells #[.int .u64 x] 49) := by
  go_enter Try.func36, Try.ntmps36
  go_wp2_with (go_at_call 41; refine (setWord_any x hx _).mono ?_; rintro e w' ⟨rfl, rfl⟩)
  go_ret
  exact ⟨rfl, rfl⟩

theorem setUint64_zero (w : World) :
    Calls Try.prog 36 #[.slice none 0 0, .int .u64 0] w fun e w' => e = .returned (.slice none 0 0) ∧ w' = w := by
  go_enter Try.func36, Try.ntmps36
  go_wp2_with (go_at_call 41; refine (setWord_zero _).mono ?_; rintro e w' ⟨rfl, rfl⟩)
  go_ret
  exact ⟨rfl, rfl⟩

end Go.Proofs.Qxb6630415a
