import Derived.Test.Qxb6631227aRows
import Derived.WalkKit
import Derived.WalkSpells
import Derived.WalkLawsBesides
namespace Go.Proofs.Qxb6631227a
open Go.RowKit
set_option maxRecDepth 100000

/-! ### (Mode).NATDMessages -/
theorem natd_2 (w : World) : Calls Try.prog 5 #[.int .u8 2] w fun e w' => e = .returned (.tuple #[.int .i64 3, .int .i64 4, .bool true]) ∧ w = w' := by
  go_enter Try.func5, Try.ntmps5
  go_wp2
  go_ret3
  exact ⟨rfl, rfl⟩
theorem natd_4 (w : World) : Calls Try.prog 5 #[.int .u8 4] w fun e w' => e = .returned (.tuple #[.int .i64 3, .int .i64 2, .bool true]) ∧ w = w' := by
  go_enter Try.func5, Try.ntmps5
  go_wp2
  go_ret3
  exact ⟨rfl, rfl⟩
theorem natd_no (m : Int) (h2 : (m == 2) = false) (h4 : (m == 4) = false) (w : World) : Calls Try.prog 5 #[.int .u8 m] w fun e w' => e = .returned (.tuple #[.int .i64 0, .int .i64 0, .bool false]) ∧ w = w' := by
  go_enter Try.func5, Try.ntmps5
  go_wp2
  go_ret3
  exact ⟨rfl, rfl⟩

/-! ### natdFirstMessage at the four places where it is called -/
theorem first_6_1 (w : World) : Calls Try.prog 6 #[.int .i64 6, .int .i64 1, .int .i64 3, .int .i64 2] w fun e w' => e = .returned (.int .i64 3) ∧ w = w' := by
  go_enter Try.func6, Try.ntmps6
  go_wp2
  refine wp_loop_rounds 3 ?_
  rw [rounds_succ]
  go_wp2
  rw [rounds_succ]
  go_wp2
  rw [rounds_succ]
  go_wp2
  go_ret
  exact ⟨rfl, rfl⟩
theorem first_6_0 (w : World) : Calls Try.prog 6 #[.int .i64 6, .int .i64 0, .int .i64 4, .int .i64 1] w fun e w' => e = .returned (.int .i64 4) ∧ w = w' := by
  go_enter Try.func6, Try.ntmps6
  go_wp2
  refine wp_loop_rounds 4 ?_
  rw [rounds_succ]
  go_wp2
  rw [rounds_succ]
  go_wp2
  rw [rounds_succ]
  go_wp2
  rw [rounds_succ]
  go_wp2
  go_ret
  exact ⟨rfl, rfl⟩
theorem first_3_1 (w : World) : Calls Try.prog 6 #[.int .i64 3, .int .i64 1, .int .i64 1, .int .i64 2] w fun e w' => e = .returned (.int .i64 3) ∧ w = w' := by
  go_enter Try.func6, Try.ntmps6
  go_wp2
  refine wp_loop_rounds 3 ?_
  rw [rounds_succ]
  go_wp2
  rw [rounds_succ]
  go_wp2
  rw [rounds_succ]
  go_wp2
  go_ret
  exact ⟨rfl, rfl⟩
theorem first_3_0 (w : World) : Calls Try.prog 6 #[.int .i64 3, .int .i64 0, .int .i64 2, .int .i64 1] w fun e w' => e = .returned (.int .i64 2) ∧ w = w' := by
  go_enter Try.func6, Try.ntmps6
  go_wp2
  refine wp_loop_rounds 2 ?_
  rw [rounds_succ]
  go_wp2
  rw [rounds_succ]
  go_wp2
  go_ret
  exact ⟨rfl, rfl⟩

/-! ### The loop's counts -/
def oksN (k : Nat) : Int := if 4 < k then 2 else if 2 < k then 1 else 0
def pastN (j k : Nat) : Int := if j < k then 1 else 0
theorem oks_bd (k : Nat) : 0 ≤ oksN k ∧ oksN k ≤ 2 := by unfold oksN; split <;> (try split) <;> omega
theorem past_bd (j k : Nat) : 0 ≤ pastN j k ∧ pastN j k ≤ 1 := by unfold pastN; split <;> omega
theorem oks_step (k : Nat) (h2 : k ≠ 2) (h4 : k ≠ 4) : oksN (k + 1) = oksN k := by
  unfold oksN; repeat' split
  all_goals omega
theorem past_step (j k : Nat) (h : k ≠ j) : pastN j (k + 1) = pastN j k := by
  unfold pastN; repeat' split
  all_goals omega
theorem u8_of (k : Nat) (h : k < 256) : IntKind.u8.wrap (k : Int) = k := by rw [IntKind.wrap_u8]; omega

set_option maxHeartbeats 1000000 in
theorem sched_2 (w : World) : Calls Try.prog 4 #[.int .u8 2] w fun e w' => e = .returned (.bool true) ∧ w = w' := by
  go_enter Try.func4, Try.ntmps4
  go_wp2_with (first | (go_at_call 5; refine (natd_2 _).mono ?_; rintro e w' ⟨rfl, rfl⟩))
  go_loop [6, 7, 8] (fun o s k => ∃ n : Nat, n ≤ 256 ∧ k = .int .i64 n ∧ o = .int .i64 (oksN n) ∧ s = .int .i64 (pastN 2 n)) (fun _ _ k => 256 - (intOf k).toNat)
  case atStart => exact ⟨0, by omega, rfl, rfl, rfl⟩
  case round =>
    obtain ⟨n, hn, rfl, rfl, rfl⟩ := hrel
    by_cases hlt : n < 256
    · have hu := u8_of n hlt
      have ho := oks_bd n
      have hp := past_bd 2 n
      by_cases h2 : n = 2
      · subst h2
        go_wp2_with (first | (go_at_call 5; refine (natd_2 _).mono ?_; rintro e w' ⟨rfl, rfl⟩))
        go_round
        case rel => exact ⟨3, by omega, rfl, rfl, rfl⟩
        case measure => simp [intOf]
      by_cases h4 : n = 4
      · subst h4
        go_wp2_with (first | (go_at_call 5; refine (natd_4 _).mono ?_; rintro e w' ⟨rfl, rfl⟩))
        go_round
        case rel => exact ⟨5, by omega, rfl, rfl, rfl⟩
        case measure => simp [intOf]
      · have e2 : ((n : Int) == 2) = false := by simp; omega
        have e4 : ((n : Int) == 4) = false := by simp; omega
        have HO : Hid (oksN (n + 1) = oksN n) := oks_step n h2 h4
        have HP : Hid (pastN 2 (n + 1) = pastN 2 n) := past_step 2 n h2
        go_wp2_with (first | (go_at_call 5; refine (natd_no _ e2 e4 _).mono ?_; rintro e w' ⟨rfl, rfl⟩))
        go_round
        case rel => exact ⟨n + 1, by omega, by go_num, by rw [HO.out], by rw [HP.out]⟩
        case measure => simp [intOf]; omega
    · obtain rfl : n = 256 := by omega
      go_wp2
      go_ret
      exact ⟨rfl, rfl⟩

set_option maxHeartbeats 1000000 in
theorem sched_4 (w : World) : Calls Try.prog 4 #[.int .u8 4] w fun e w' => e = .returned (.bool true) ∧ w = w' := by
  go_enter Try.func4, Try.ntmps4
  go_wp2_with (first | (go_at_call 5; refine (natd_4 _).mono ?_; rintro e w' ⟨rfl, rfl⟩))
  go_loop [6, 7, 8] (fun o s k => ∃ n : Nat, n ≤ 256 ∧ k = .int .i64 n ∧ o = .int .i64 (oksN n) ∧ s = .int .i64 (pastN 4 n)) (fun _ _ k => 256 - (intOf k).toNat)
  case atStart => exact ⟨0, by omega, rfl, rfl, rfl⟩
  case round =>
    obtain ⟨n, hn, rfl, rfl, rfl⟩ := hrel
    by_cases hlt : n < 256
    · have hu := u8_of n hlt
      have ho := oks_bd n
      have hp := past_bd 4 n
      by_cases h2 : n = 2
      · subst h2
        go_wp2_with (first | (go_at_call 5; refine (natd_2 _).mono ?_; rintro e w' ⟨rfl, rfl⟩))
        go_round
        case rel => exact ⟨3, by omega, rfl, rfl, rfl⟩
        case measure => simp [intOf]
      by_cases h4 : n = 4
      · subst h4
        go_wp2_with (first | (go_at_call 5; refine (natd_4 _).mono ?_; rintro e w' ⟨rfl, rfl⟩))
        go_round
        case rel => exact ⟨5, by omega, rfl, rfl, rfl⟩
        case measure => simp [intOf]
      · have e2 : ((n : Int) == 2) = false := by simp; omega
        have e4 : ((n : Int) == 4) = false := by simp; omega
        have HO : Hid (oksN (n + 1) = oksN n) := oks_step n h2 h4
        have HP : Hid (pastN 4 (n + 1) = pastN 4 n) := past_step 4 n h4
        go_wp2_with (first | (go_at_call 5; refine (natd_no _ e2 e4 _).mono ?_; rintro e w' ⟨rfl, rfl⟩))
        go_round
        case rel => exact ⟨n + 1, by omega, by go_num, by rw [HO.out], by rw [HP.out]⟩
        case measure => simp [intOf]; omega
    · obtain rfl : n = 256 := by omega
      go_wp2
      go_ret
      exact ⟨rfl, rfl⟩

set_option maxHeartbeats 1000000 in
theorem sched_no (m : Int) (m2 : (m == 2) = false) (m4 : (m == 4) = false) (w : World) : Calls Try.prog 4 #[.int .u8 m] w fun e w' => e = .returned (.bool true) ∧ w = w' := by
  go_enter Try.func4, Try.ntmps4
  go_wp2_with (first | (go_at_call 5; refine (natd_no _ m2 m4 _).mono ?_; rintro e w' ⟨rfl, rfl⟩))
  go_loop [6, 7, 8] (fun o s k => ∃ n : Nat, n ≤ 256 ∧ k = .int .i64 n ∧ o = .int .i64 (oksN n) ∧ s = .int .i64 0) (fun _ _ k => 256 - (intOf k).toNat)
  case atStart => exact ⟨0, by omega, rfl, rfl, rfl⟩
  case round =>
    obtain ⟨n, hn, rfl, rfl, rfl⟩ := hrel
    by_cases hlt : n < 256
    · have hu := u8_of n hlt
      have ho := oks_bd n
      by_cases h2 : n = 2
      · subst h2
        go_wp2_with (first | (go_at_call 5; refine (natd_2 _).mono ?_; rintro e w' ⟨rfl, rfl⟩))
        go_round
        case rel => exact ⟨3, by omega, rfl, rfl, rfl⟩
        case measure => simp [intOf]
      by_cases h4 : n = 4
      · subst h4
        go_wp2_with (first | (go_at_call 5; refine (natd_4 _).mono ?_; rintro e w' ⟨rfl, rfl⟩))
        go_round
        case rel => exact ⟨5, by omega, rfl, rfl, rfl⟩
        case measure => simp [intOf]
      · have e2 : ((n : Int) == 2) = false := by simp; omega
        have e4 : ((n : Int) == 4) = false := by simp; omega
        have HO : Hid (oksN (n + 1) = oksN n) := oks_step n h2 h4
        go_wp2_with (first | (go_at_call 5; refine (natd_no _ e2 e4 _).mono ?_; rintro e w' ⟨rfl, rfl⟩))
        go_round
        case rel => exact ⟨n + 1, by omega, by go_num, by rw [HO.out], rfl⟩
        case measure => simp [intOf]; omega
    · obtain rfl : n = 256 := by omega
      go_wp2
      go_ret
      exact ⟨rfl, rfl⟩

theorem sched_any (m : Int) (w : World) : Calls Try.prog 4 #[.int .u8 m] w fun e w' => e = .returned (.bool true) ∧ w = w' := by
  by_cases h2 : m = 2
  · subst h2; exact sched_2 w
  by_cases h4 : m = 4
  · subst h4; exact sched_4 w
  · exact sched_no m (by simpa using h2) (by simpa using h4) w

theorem first_any (m : Int) (w : World) : Calls Try.prog 3 #[.int .u8 m] w fun e w' => e = .returned (.bool true) ∧ w = w' := by
  by_cases h2 : m = 2
  · subst h2
    go_enter Try.func3, Try.ntmps3
    go_wp2_with (first | (go_at_call 5; refine (natd_2 _).mono ?_; rintro e w' ⟨rfl, rfl⟩) | fail)
    refine (first_6_1 _).mono ?_
    rintro e w' ⟨rfl, rfl⟩
    go_wp2_with fail
    refine (first_6_0 _).mono ?_
    rintro e w' ⟨rfl, rfl⟩
    go_wp2
    go_ret
    exact ⟨rfl, rfl⟩
  by_cases h4 : m = 4
  · subst h4
    go_enter Try.func3, Try.ntmps3
    go_wp2_with (first | (go_at_call 5; refine (natd_4 _).mono ?_; rintro e w' ⟨rfl, rfl⟩) | fail)
    refine (first_3_1 _).mono ?_
    rintro e w' ⟨rfl, rfl⟩
    go_wp2_with fail
    refine (first_3_0 _).mono ?_
    rintro e w' ⟨rfl, rfl⟩
    go_wp2
    go_ret
    exact ⟨rfl, rfl⟩
  · have e2 : (m == 2) = false := by simpa using h2
    have e4 : (m == 4) = false := by simpa using h4
    go_enter Try.func3, Try.ntmps3
    go_wp2_with (first | (go_at_call 5; refine (natd_no _ e2 e4 _).mono ?_; rintro e w' ⟨rfl, rfl⟩))
    go_ret
    exact ⟨rfl, rfl⟩

end Go.Proofs.Qxb6631227a
