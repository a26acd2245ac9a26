import Derived.Test.Qxb6630489aW2
namespace Go.Proofs.Qxb6630489a
open Go.RowKit

theorem bytes5 (s : ByteArray) (n k : Int) (hs : s.size ≤ maxLen) (w : World) :
    Calls Try.prog 5 #[.string s, .int .i64 n, .int .i64 k] w fun e w' => (∃ r, e = .returned (.bool r)) ∧ w = w' := by
  unfold maxLen at hs
  go_enter Try.func5, Try.ntmps5
  go_wp2
  all_goals (go_ret; exact ⟨⟨_, rfl⟩, rfl⟩)

set_option maxRecDepth 100000 in
set_option maxHeartbeats 1000000 in
theorem law_takes (s : ByteArray) (n k : Int) (hm : s.size ≤ maxLen) (w : World) :
    Calls Try.prog 3 #[.string s, .int .i64 n, .int .i64 k] w fun e w' => e = .returned (.bool true) ∧ Below w.heap.size w w' := by
  by_cases hs : s.size ≤ 1048576
  · have hcl := cut_le s n
    have hcl' : (cut s n : Int) ≤ s.size := by omega
    have hs' : (s.size : Int) ≤ 1048576 := by omega
    go_enter Try.func3, Try.ntmps3
    go_wp2_with (first | (go_at_call 5; refine (bytes5 _ _ _ hm _).mono ?_; rintro e w' ⟨⟨r, rfl⟩, rfl⟩) | (go_at_call 6; refine (text_any _ _).mono ?_; rintro e w' ⟨rfl, rfl⟩) | fail)
    · go_ret
      exact ⟨rfl, Below.refl _ _⟩
    refine (pre_text s n hs _).mono ?_
    rintro e w1 ⟨rfl, hb1⟩
    have B1 : Below w.heap.size w w1 := ((Below.refl _ _).alloc (Nat.le_refl _) _).trans (hb1.mono (by simp))
    clear hb1
    go_wp2_with (first | (go_at_call 8; refine (cut_any s n hs _).mono ?_; rintro e w' ⟨rfl, rfl⟩) | (go_at_call 9; refine (rank_any _ _ _ _).mono ?_; rintro e w' ⟨rfl, rfl⟩) | (go_at_call 10; refine (str_any _ _ _ _).mono ?_; rintro e w' ⟨rfl, rfl⟩) | (go_at_call 11; refine (num_any _ _ _ _).mono ?_; rintro e w' ⟨rfl, rfl⟩) | (go_at_call 12; refine (intv_any _ _).mono ?_; rintro e w' ⟨rfl, rfl⟩) | fail)
    refine (pre_other 1 k n _ (by decide) _).mono ?_
    rintro e w2 ⟨rfl, hb2⟩
    have B2 : Below w.heap.size w w2 := by
      have hz := B1.size
      exact (((((B1.alloc hz _).alloc (by simp; omega) _).alloc (by simp; omega) _).alloc (by simp; omega) _).alloc (by simp; omega) _).trans (hb2.mono (by simp; omega))
    clear hb2 B1
    go_wp2_with (first | (go_at_call 9; refine (rank_any _ _ _ _).mono ?_; rintro e w' ⟨rfl, rfl⟩) | (go_at_call 10; refine (str_any _ _ _ _).mono ?_; rintro e w' ⟨rfl, rfl⟩) | (go_at_call 11; refine (num_any _ _ _ _).mono ?_; rintro e w' ⟨rfl, rfl⟩) | fail)
    refine (pre_other 0 0 n _ (by decide) _).mono ?_
    rintro e w3 ⟨rfl, hb3⟩
    have B3 : Below w.heap.size w w3 := by
      have hz := B2.size
      exact (((((B2.alloc hz _).alloc (by simp; omega) _).alloc (by simp; omega) _).alloc (by simp; omega) _)).trans (hb3.mono (by simp; omega))
    clear hb3 B2
    go_wp2_with (first | (go_at_call 9; refine (rank_any _ _ _ _).mono ?_; rintro e w' ⟨rfl, rfl⟩) | (go_at_call 10; refine (str_any _ _ _ _).mono ?_; rintro e w' ⟨rfl, rfl⟩) | (go_at_call 11; refine (num_any _ _ _ _).mono ?_; rintro e w' ⟨rfl, rfl⟩) | fail)
    go_ret
    have hz := B3.size
    exact ⟨rfl, ((((B3.alloc hz _).alloc (by simp; omega) _).alloc (by simp; omega) _).alloc (by simp; omega) _)⟩
  · have hs' : (1048576 : Int) < s.size := by omega
    go_enter Try.func3, Try.ntmps3
    go_wp2_with (first | (go_at_call 5; refine (bytes5 _ _ _ hm _).mono ?_; rintro e w' ⟨⟨r, rfl⟩, rfl⟩))
    all_goals
      go_ret
      exact ⟨rfl, Below.refl _ _⟩

end Go.Proofs.Qxb6630489a
