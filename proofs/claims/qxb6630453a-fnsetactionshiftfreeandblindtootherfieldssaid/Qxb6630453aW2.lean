import Derived.Test.Qxb6630453aW1
namespace Go.Proofs.Qxb6630453a
open Go.RowKit
theorem run_store_float (P : Program) (w : World) (a : Addr) (m : Mode) (k : FloatKind) (n : Nat) : (store a (.float k n) m).run P w = stored P w a (.float k n) m := run_store P w a _ m rfl
attribute [local go_sem] alloc_drewN setCell_drewN run_store_float

theorem num_neq (w : World) : (binOp .neq 26 (.agg #[.float .f64 0, .string ⟨#[]⟩]) (.agg #[.float .f64 0, .string ⟨#[]⟩])).run Try.prog w = .ok (.bool false) w := by kernel_rfl

set_option maxRecDepth 100000 in
set_option maxHeartbeats 1000000 in
theorem law3_up (s0 s6 s7 : ByteArray) (a1 a2 a3 a4 a5 : Int) (h0 : s0.size ≤ maxLen) (h6 : s6.size ≤ maxLen) (h7 : s7.size ≤ maxLen) (h : a1 < a5) (w : World) :
    Calls Try.prog 3 #[.string s0, .int .i64 a1, .int .i64 a2, .int .i64 a3, .int .i64 a4, .int .i64 a5, .string s6, .string s7] w fun e w' => e = .returned (.bool true) ∧ Below w.heap.size w w' := by
  have h' : ¬ a5 < a1 := by omega
  have hnum := num_neq
  go_enter Try.func3, Try.ntmps3
  go_wp2_with (first | (go_at_call 5; refine (bytes5 _ _ _ _ _ _ _ _ h0 h6 h7 _).mono ?_; rintro e w' ⟨⟨r, rfl⟩, rfl⟩) | fail)
  iterate 4 (go_ret; exact ⟨rfl, Below.refl _ _⟩)
  refine (set_up _ a1 a5 s6 h _ ?_ ?_ ?_ ?_).mono ?_
  iterate 4 (go_simp)
  rintro e w2 ⟨rfl, n2, rfl⟩
  go_wp2_with fail
  refine (set_down _ a5 a1 s6 h _ ?_ ?_ ?_ ?_).mono ?_
  iterate 4 (go_simp)
  rintro e w3 ⟨rfl, n3, rfl⟩
  go_wp2_with (first | (go_at_call 7; refine (valid_any _ ?_ _).mono ?_; (first | exact Or.inl rfl | exact Or.inr (Or.inl rfl) | exact Or.inr (Or.inr rfl)); rintro e w4 ⟨rfl, rfl⟩))
  go_ret
  exact ⟨rfl, below_drewN ((((Below.refl _ _).alloc (Nat.le_refl _) _).alloc (by simp) _).alloc (by simp; omega) _) _⟩

set_option maxRecDepth 100000 in
set_option maxHeartbeats 1000000 in
theorem law3_down (s0 s6 s7 : ByteArray) (a1 a2 a3 a4 a5 : Int) (h0 : s0.size ≤ maxLen) (h6 : s6.size ≤ maxLen) (h7 : s7.size ≤ maxLen) (h : a5 < a1) (w : World) :
    Calls Try.prog 3 #[.string s0, .int .i64 a1, .int .i64 a2, .int .i64 a3, .int .i64 a4, .int .i64 a5, .string s6, .string s7] w fun e w' => e = .returned (.bool true) ∧ Below w.heap.size w w' := by
  have h' : ¬ a1 < a5 := by omega
  have hnum := num_neq
  go_enter Try.func3, Try.ntmps3
  go_wp2_with (first | (go_at_call 5; refine (bytes5 _ _ _ _ _ _ _ _ h0 h6 h7 _).mono ?_; rintro e w' ⟨⟨r, rfl⟩, rfl⟩) | fail)
  iterate 4 (go_ret; exact ⟨rfl, Below.refl _ _⟩)
  refine (set_down _ a1 a5 s6 h _ ?_ ?_ ?_ ?_).mono ?_
  iterate 4 (go_simp)
  rintro e w2 ⟨rfl, n2, rfl⟩
  go_wp2_with fail
  refine (set_up _ a5 a1 s6 h _ ?_ ?_ ?_ ?_).mono ?_
  iterate 4 (go_simp)
  rintro e w3 ⟨rfl, n3, rfl⟩
  go_wp2_with (first | (go_at_call 7; refine (valid_any _ ?_ _).mono ?_; (first | exact Or.inl rfl | exact Or.inr (Or.inl rfl) | exact Or.inr (Or.inr rfl)); rintro e w4 ⟨rfl, rfl⟩))
  go_ret
  exact ⟨rfl, below_drewN ((((Below.refl _ _).alloc (Nat.le_refl _) _).alloc (by simp) _).alloc (by simp; omega) _) _⟩

set_option maxRecDepth 100000 in
set_option maxHeartbeats 1000000 in
theorem law3_none (s0 s6 s7 : ByteArray) (a1 a2 a3 a4 : Int) (h0 : s0.size ≤ maxLen) (h6 : s6.size ≤ maxLen) (h7 : s7.size ≤ maxLen) (w : World) :
    Calls Try.prog 3 #[.string s0, .int .i64 a1, .int .i64 a2, .int .i64 a3, .int .i64 a4, .int .i64 a1, .string s6, .string s7] w fun e w' => e = .returned (.bool true) ∧ Below w.heap.size w w' := by
  have hnum := num_neq
  go_enter Try.func3, Try.ntmps3
  go_wp2_with (first | (go_at_call 5; refine (bytes5 _ _ _ _ _ _ _ _ h0 h6 h7 _).mono ?_; rintro e w' ⟨⟨r, rfl⟩, rfl⟩) | fail)
  iterate 4 (go_ret; exact ⟨rfl, Below.refl _ _⟩)
  refine (set_none _ a1 s6 _ ?_ ?_ ?_ ?_).mono ?_
  iterate 4 (go_simp)
  rintro e w2 ⟨rfl, n2, rfl⟩
  go_wp2_with fail
  refine (set_none _ a1 s6 _ ?_ ?_ ?_ ?_).mono ?_
  iterate 4 (go_simp)
  rintro e w3 ⟨rfl, n3, rfl⟩
  go_wp2_with (first | (go_at_call 7; refine (valid_any _ ?_ _).mono ?_; (first | exact Or.inl rfl | exact Or.inr (Or.inl rfl) | exact Or.inr (Or.inr rfl)); rintro e w4 ⟨rfl, rfl⟩))
  go_ret
  exact ⟨rfl, below_drewN ((((Below.refl _ _).alloc (Nat.le_refl _) _).alloc (by simp) _).alloc (by simp; omega) _) _⟩

theorem law3 (s0 s6 s7 : ByteArray) (a1 a2 a3 a4 a5 : Int) (h0 : s0.size ≤ maxLen) (h6 : s6.size ≤ maxLen) (h7 : s7.size ≤ maxLen) (w : World) :
    Calls Try.prog 3 #[.string s0, .int .i64 a1, .int .i64 a2, .int .i64 a3, .int .i64 a4, .int .i64 a5, .string s6, .string s7] w fun e w' => e = .returned (.bool true) ∧ Below w.heap.size w w' := by
  by_cases h : a1 < a5
  · exact law3_up s0 s6 s7 a1 a2 a3 a4 a5 h0 h6 h7 h w
  by_cases h' : a5 < a1
  · exact law3_down s0 s6 s7 a1 a2 a3 a4 a5 h0 h6 h7 h' w
  · obtain rfl : a1 = a5 := by omega
    exact law3_none s0 s6 s7 a1 a2 a3 a4 h0 h6 h7 w

end Go.Proofs.Qxb6630453a
