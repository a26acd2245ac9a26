import Derived.Test.Qxb6630415aW3
namespace Go.Proofs.Qxb6630415a
open Go.RowKit
attribute [local go_sem ↓] Go.wp_at_zero Go.wp_at_succ

theorem ret_int {k : IntKind} {a b : Int} (h : a = b) : Ending.returned (.int k a) = .returned (.int k b) := by rw [h]
theorem sign3_lt {x y : Int} (h : x < y) : (-1 : Int) = sign3 x y := by rw [sign3, if_pos h]
theorem sign3_gt {x y : Int} (h : y < x) : (1 : Int) = sign3 x y := by rw [sign3, if_neg (by omega), if_pos h]
theorem sign3_eq {x y : Int} (h : x = y) : (0 : Int) = sign3 x y := by rw [sign3, if_neg (by omega), if_neg (by omega)]

theorem natCmp_lt (a1 a2 : Option Addr) (n1 n2 c1 c2 : Nat) (h : n1 < n2) (w : World) :
    Calls Try.prog 23 #[.slice a1 n1 c1, .slice a2 n2 c2] w fun e w' => e = .returned (.int .i64 (-1)) ∧ w' = w := by
  have hne : ((n1 : Int) != (n2 : Int)) = true := by simp; omega
  have hlt : (n1 : Int) < n2 := by omega
  go_enter Try.func23, Try.ntmps23
  go_wp2
  go_ret
  exact ⟨rfl, rfl⟩

theorem natCmp_gt (a1 a2 : Option Addr) (n1 n2 c1 c2 : Nat) (h : n2 < n1) (w : World) :
    Calls Try.prog 23 #[.slice a1 n1 c1, .slice a2 n2 c2] w fun e w' => e = .returned (.int .i64 1) ∧ w' = w := by
  have hne : ((n1 : Int) != (n2 : Int)) = true := by simp; omega
  have hlt : ¬ (n1 : Int) < n2 := by omega
  have hgt : (n2 : Int) < n1 := by omega
  go_enter Try.func23, Try.ntmps23
  go_wp2
  go_ret
  exact ⟨rfl, rfl⟩

theorem natCmp_00 (a1 a2 : Option Addr) (c1 c2 : Nat) (w : World) :
    Calls Try.prog 23 #[.slice a1 0 c1, .slice a2 0 c2] w fun e w' => e = .returned (.int .i64 0) ∧ w' = w := by
  go_enter Try.func23, Try.ntmps23
  go_wp2
  go_ret
  exact ⟨rfl, rfl⟩

theorem natCmp_11 (g1 g2 : Nat) (c1 c2 : Nat) (x y : Int) (w : World) (h0 : w.cell? ⟨g1, 0, none⟩ = some (.int .u64 x)) (h1 : w.cell? ⟨g2, 0, none⟩ = some (.int .u64 y)) :
    Calls Try.prog 23 #[.slice (some ⟨g1, 0, none⟩) 1 c1, .slice (some ⟨g2, 0, none⟩) 1 c2] w fun e w' => e = .returned (.int .i64 (sign3 x y)) ∧ ∃ n, w' = w.drewN n := by
  go_enter Try.func23, Try.ntmps23
  go_wp2
  refine wp_loop_rounds 1 ?_
  rw [rounds_succ]
  go_wp2_with fail
  go_quiet (fail)
  go_wp2
  go_quiet (fail)
  by_cases hlt : x < y
  · go_wp2
    go_ret
    refine ⟨ret_int (sign3_lt hlt), ?_⟩
    simp only [World.drewN_drewN]; exact ⟨_, rfl⟩
  · by_cases hgt : y < x
    · go_wp2
      go_quiet (fail)
      go_wp2
      go_ret
      refine ⟨ret_int (sign3_gt hgt), ?_⟩
      simp only [World.drewN_drewN]; exact ⟨_, rfl⟩
    · go_wp2
      go_quiet (fail)
      go_wp2
      go_ret
      refine ⟨ret_int (sign3_eq (by omega)), ?_⟩
      simp only [World.drewN_drewN]; exact ⟨_, rfl⟩

theorem natCmp_22 (g1 g2 : Nat) (c1 c2 : Nat) (w : World) (h0 : w.cell? ⟨g1, 0, none⟩ = some (.int .u64 0)) (h1 : w.cell? ⟨g2, 0, none⟩ = some (.int .u64 0))
     (k0 : w.cell? ⟨g1, 1, none⟩ = some (.int .u64 1)) (k1 : w.cell? ⟨g2, 1, none⟩ = some (.int .u64 1)) :
    Calls Try.prog 23 #[.slice (some ⟨g1, 0, none⟩) 2 c1, .slice (some ⟨g2, 0, none⟩) 2 c2] w fun e w' => e = .returned (.int .i64 0) ∧ ∃ n, w' = w.drewN n := by
  go_enter Try.func23, Try.ntmps23
  go_wp2
  refine wp_loop_rounds 2 ?_
  rw [rounds_succ]
  go_wp2_with fail
  go_quiet (fail)
  go_wp2
  rw [rounds_succ]
  go_wp2_with fail
  go_quiet (fail)
  go_wp2
  go_quiet (fail)
  go_wp2
  go_quiet (fail)
  go_wp2
  go_ret
  refine ⟨rfl, ?_⟩
  simp only [World.drewN_drewN]; exact ⟨_, rfl⟩

theorem low64_1 (g c : Nat) (x : Int) (w : World) (h0 : w.cell? ⟨g, 0, none⟩ = some (.int .u64 x)) :
    Calls Try.prog 26 #[.slice (some ⟨g, 0, none⟩) 1 c] w fun e w' => e = .returned (.int .u64 x) ∧ w' = w := by
  go_enter Try.func26, Try.ntmps26
  go_wp2
  go_ret
  exact ⟨rfl, rfl⟩

end Go.Proofs.Qxb6630415a
