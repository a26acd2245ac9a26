import Derived.Test.Qxb6630453aW3
namespace Go.Proofs.Qxb6630453a
open Go.RowKit
attribute [local go_sem] alloc_drewN setCell_drewN run_store_float

set_option maxRecDepth 100000 in
set_option maxHeartbeats 1000000 in
theorem law4_up (s3 s7 s8 s9 : ByteArray) (a0 a1 k a4 a5 a6 : Int) (h3 : s3.size ≤ maxLen) (h7 : s7.size ≤ maxLen) (h8 : s8.size ≤ maxLen) (h9 : s9.size ≤ maxLen)
    (k0 : -9223372036854775808 ≤ k) (k1 : k ≤ 9223372036854775807) (h : a0 < a1)
    (hp : 0 < k → a0 ≤ 9223372036854775807 - k ∧ a1 ≤ 9223372036854775807 - k) (hn : k < 0 → -9223372036854775808 - k ≤ a0 ∧ -9223372036854775808 - k ≤ a1)
    (r0 : -9223372036854775808 ≤ a0 + k) (r1 : a0 + k ≤ 9223372036854775807) (r2 : -9223372036854775808 ≤ a1 + k) (r3 : a1 + k ≤ 9223372036854775807) (w : World) :
    Calls Try.prog 4 #[.int .i64 a0, .int .i64 a1, .int .i64 k, .string s3, .int .i64 a4, .int .i64 a5, .int .i64 a6, .string s7, .string s8, .string s9] w fun e w' => e = .returned (.bool true) ∧ Below w.heap.size w w' := by
  have hnum := num_neq
  have hdec := dec_same
  have h' : ¬ a1 < a0 := by omega
  have hk : a0 + k < a1 + k := by omega
  have Hp : Hid (0 < k → a0 ≤ 9223372036854775807 - k ∧ a1 ≤ 9223372036854775807 - k) := hp
  have Hn : Hid (k < 0 → -9223372036854775808 - k ≤ a0 ∧ -9223372036854775808 - k ≤ a1) := hn
  clear hp hn
  go_enter Try.func4, Try.ntmps4
  go_upto_region 11 with (first | (go_at_call 8; refine (bytes8 _ _ _ _ _ _ _ _ _ _ h3 h7 h8 h9 _).mono ?_; rintro e w' ⟨⟨r, rfl⟩, rfl⟩))
  iterate 5 (go_ret; exact ⟨rfl, Below.refl _ _⟩)
  go_cut [61] (fun s61 wx => s61 = .bool false ∧ w = wx)
  case first =>
    by_cases hk0 : 0 < k
    · obtain ⟨p0, p1⟩ := Hp.out hk0
      have q0 : ¬ 9223372036854775807 - k < a0 := by omega
      have q1 : ¬ 9223372036854775807 - k < a1 := by omega
      go_wp2_with fail
      go_meet
      exact ⟨rfl, rfl⟩
    · go_wp2_with fail
      go_meet
      exact ⟨rfl, rfl⟩
  case rest =>
  obtain ⟨rfl, rfl⟩ := hcut
  go_upto_region 13 with fail
  go_cut [75] (fun s75 wx => s75 = .bool false ∧ w = wx)
  case first =>
    by_cases hk0 : k < 0
    · obtain ⟨p0, p1⟩ := Hn.out hk0
      have q0 : ¬ a0 < -9223372036854775808 - k := by omega
      have q1 : ¬ a1 < -9223372036854775808 - k := by omega
      go_wp2_with fail
      go_meet
      exact ⟨rfl, rfl⟩
    · go_wp2_with fail
      go_meet
      exact ⟨rfl, rfl⟩
  case rest =>
  obtain ⟨rfl, rfl⟩ := hcut
  go_wp2_with fail
  refine (set_up _ a0 a1 s7 h _ ?_ ?_ ?_ ?_).mono ?_
  iterate 4 (go_simp)
  rintro e w2 ⟨rfl, n2, rfl⟩
  go_wp2_with fail
  refine (set_up _ (a0 + k) (a1 + k) s8 hk _ ?_ ?_ ?_ ?_).mono ?_
  iterate 4 (go_simp)
  rintro e w3 ⟨rfl, n3, rfl⟩
  go_wp2_with (first | (go_at_call 7; refine (valid_any _ ?_ _).mono ?_; (first | exact Or.inl rfl | exact Or.inr (Or.inl rfl) | exact Or.inr (Or.inr rfl)); rintro e w4 ⟨rfl, rfl⟩))
  refine (set_up _ a0 a1 ⟨#[115, 99, 97, 108, 101, 45, 117, 112]⟩ h _ ?_ ?_ ?_ ?_).mono ?_
  iterate 4 (go_simp)
  rintro e w5 ⟨rfl, n5, rfl⟩
  go_wp2
  go_ret
  exact ⟨rfl, below_drewN ((((Below.refl _ _).alloc (Nat.le_refl _) _).alloc (by simp) _).alloc (by simp; omega) _) _⟩

set_option maxRecDepth 100000 in
set_option maxHeartbeats 1000000 in
theorem law4_down (s3 s7 s8 s9 : ByteArray) (a0 a1 k a4 a5 a6 : Int) (h3 : s3.size ≤ maxLen) (h7 : s7.size ≤ maxLen) (h8 : s8.size ≤ maxLen) (h9 : s9.size ≤ maxLen)
    (k0 : -9223372036854775808 ≤ k) (k1 : k ≤ 9223372036854775807) (h : a1 < a0)
    (hp : 0 < k → a0 ≤ 9223372036854775807 - k ∧ a1 ≤ 9223372036854775807 - k) (hn : k < 0 → -9223372036854775808 - k ≤ a0 ∧ -9223372036854775808 - k ≤ a1)
    (r0 : -9223372036854775808 ≤ a0 + k) (r1 : a0 + k ≤ 9223372036854775807) (r2 : -9223372036854775808 ≤ a1 + k) (r3 : a1 + k ≤ 9223372036854775807) (w : World) :
    Calls Try.prog 4 #[.int .i64 a0, .int .i64 a1, .int .i64 k, .string s3, .int .i64 a4, .int .i64 a5, .int .i64 a6, .string s7, .string s8, .string s9] w fun e w' => e = .returned (.bool true) ∧ Below w.heap.size w w' := by
  have hnum := num_neq
  have hdec := dec_same
  have h' : ¬ a0 < a1 := by omega
  have hk : a1 + k < a0 + k := by omega
  have Hp : Hid (0 < k → a0 ≤ 9223372036854775807 - k ∧ a1 ≤ 9223372036854775807 - k) := hp
  have Hn : Hid (k < 0 → -9223372036854775808 - k ≤ a0 ∧ -9223372036854775808 - k ≤ a1) := hn
  clear hp hn
  go_enter Try.func4, Try.ntmps4
  go_upto_region 11 with (first | (go_at_call 8; refine (bytes8 _ _ _ _ _ _ _ _ _ _ h3 h7 h8 h9 _).mono ?_; rintro e w' ⟨⟨r, rfl⟩, rfl⟩))
  iterate 5 (go_ret; exact ⟨rfl, Below.refl _ _⟩)
  go_cut [61] (fun s61 wx => s61 = .bool false ∧ w = wx)
  case first =>
    by_cases hk0 : 0 < k
    · obtain ⟨p0, p1⟩ := Hp.out hk0
      have q0 : ¬ 9223372036854775807 - k < a0 := by omega
      have q1 : ¬ 9223372036854775807 - k < a1 := by omega
      go_wp2_with fail
      go_meet
      exact ⟨rfl, rfl⟩
    · go_wp2_with fail
      go_meet
      exact ⟨rfl, rfl⟩
  case rest =>
  obtain ⟨rfl, rfl⟩ := hcut
  go_upto_region 13 with fail
  go_cut [75] (fun s75 wx => s75 = .bool false ∧ w = wx)
  case first =>
    by_cases hk0 : k < 0
    · obtain ⟨p0, p1⟩ := Hn.out hk0
      have q0 : ¬ a0 < -9223372036854775808 - k := by omega
      have q1 : ¬ a1 < -9223372036854775808 - k := by omega
      go_wp2_with fail
      go_meet
      exact ⟨rfl, rfl⟩
    · go_wp2_with fail
      go_meet
      exact ⟨rfl, rfl⟩
  case rest =>
  obtain ⟨rfl, rfl⟩ := hcut
  go_wp2_with fail
  refine (set_down _ a0 a1 s7 h _ ?_ ?_ ?_ ?_).mono ?_
  iterate 4 (go_simp)
  rintro e w2 ⟨rfl, n2, rfl⟩
  go_wp2_with fail
  refine (set_down _ (a0 + k) (a1 + k) s8 hk _ ?_ ?_ ?_ ?_).mono ?_
  iterate 4 (go_simp)
  rintro e w3 ⟨rfl, n3, rfl⟩
  go_wp2_with (first | (go_at_call 7; refine (valid_any _ ?_ _).mono ?_; (first | exact Or.inl rfl | exact Or.inr (Or.inl rfl) | exact Or.inr (Or.inr rfl)); rintro e w4 ⟨rfl, rfl⟩))
  refine (set_down _ a0 a1 ⟨#[115, 99, 97, 108, 101, 45, 100, 111, 119, 110]⟩ h _ ?_ ?_ ?_ ?_).mono ?_
  iterate 4 (go_simp)
  rintro e w5 ⟨rfl, n5, rfl⟩
  go_wp2
  go_ret
  exact ⟨rfl, below_drewN ((((Below.refl _ _).alloc (Nat.le_refl _) _).alloc (by simp) _).alloc (by simp; omega) _) _⟩

set_option maxRecDepth 100000 in
set_option maxHeartbeats 1000000 in
theorem law4_none (s3 s7 s8 s9 : ByteArray) (a0 k a4 a5 a6 : Int) (h3 : s3.size ≤ maxLen) (h7 : s7.size ≤ maxLen) (h8 : s8.size ≤ maxLen) (h9 : s9.size ≤ maxLen)
    (k0 : -9223372036854775808 ≤ k) (k1 : k ≤ 9223372036854775807)
    (hp : 0 < k → a0 ≤ 9223372036854775807 - k) (hn : k < 0 → -9223372036854775808 - k ≤ a0)
    (r0 : -9223372036854775808 ≤ a0 + k) (r1 : a0 + k ≤ 9223372036854775807) (w : World) :
    Calls Try.prog 4 #[.int .i64 a0, .int .i64 a0, .int .i64 k, .string s3, .int .i64 a4, .int .i64 a5, .int .i64 a6, .string s7, .string s8, .string s9] w fun e w' => e = .returned (.bool true) ∧ Below w.heap.size w w' := by
  have hnum := num_neq
  have hdec := dec_same
  have Hp : Hid (0 < k → a0 ≤ 9223372036854775807 - k) := hp
  have Hn : Hid (k < 0 → -9223372036854775808 - k ≤ a0) := hn
  clear hp hn
  go_enter Try.func4, Try.ntmps4
  go_upto_region 11 with (first | (go_at_call 8; refine (bytes8 _ _ _ _ _ _ _ _ _ _ h3 h7 h8 h9 _).mono ?_; rintro e w' ⟨⟨r, rfl⟩, rfl⟩))
  iterate 5 (go_ret; exact ⟨rfl, Below.refl _ _⟩)
  go_cut [61] (fun s61 wx => s61 = .bool false ∧ w = wx)
  case first =>
    by_cases hk0 : 0 < k
    · have p0 := Hp.out hk0
      have q0 : ¬ 9223372036854775807 - k < a0 := by omega
      go_wp2_with fail
      go_meet
      exact ⟨rfl, rfl⟩
    · go_wp2_with fail
      go_meet
      exact ⟨rfl, rfl⟩
  case rest =>
  obtain ⟨rfl, rfl⟩ := hcut
  go_upto_region 13 with fail
  go_cut [75] (fun s75 wx => s75 = .bool false ∧ w = wx)
  case first =>
    by_cases hk0 : k < 0
    · have p0 := Hn.out hk0
      have q0 : ¬ a0 < -9223372036854775808 - k := by omega
      go_wp2_with fail
      go_meet
      exact ⟨rfl, rfl⟩
    · go_wp2_with fail
      go_meet
      exact ⟨rfl, rfl⟩
  case rest =>
  obtain ⟨rfl, rfl⟩ := hcut
  go_wp2_with fail
  refine (set_none _ a0 s7 _ ?_ ?_ ?_ ?_).mono ?_
  iterate 4 (go_simp)
  rintro e w2 ⟨rfl, n2, rfl⟩
  go_wp2_with fail
  refine (set_none _ (a0 + k) s8 _ ?_ ?_ ?_ ?_).mono ?_
  iterate 4 (go_simp)
  rintro e w3 ⟨rfl, n3, rfl⟩
  go_wp2_with (first | (go_at_call 7; refine (valid_any _ ?_ _).mono ?_; (first | exact Or.inl rfl | exact Or.inr (Or.inl rfl) | exact Or.inr (Or.inr rfl)); rintro e w4 ⟨rfl, rfl⟩))
  refine (set_none _ a0 ⟨#[110, 111, 45, 99, 104, 97, 110, 103, 101]⟩ _ ?_ ?_ ?_ ?_).mono ?_
  iterate 4 (go_simp)
  rintro e w5 ⟨rfl, n5, rfl⟩
  go_wp2
  go_ret
  exact ⟨rfl, below_drewN ((((Below.refl _ _).alloc (Nat.le_refl _) _).alloc (by simp) _).alloc (by simp; omega) _) _⟩

set_option maxRecDepth 100000 in
set_option maxHeartbeats 1000000 in
theorem law4_out (s3 s7 s8 s9 : ByteArray) (a0 a1 k a4 a5 a6 : Int) (h3 : s3.size ≤ maxLen) (h7 : s7.size ≤ maxLen) (h8 : s8.size ≤ maxLen) (h9 : s9.size ≤ maxLen)
    (k0 : -9223372036854775808 ≤ k) (k1 : k ≤ 9223372036854775807)
    (ho : (0 < k ∧ 9223372036854775807 - k < a0) ∨ (0 < k ∧ a0 ≤ 9223372036854775807 - k ∧ 9223372036854775807 - k < a1) ∨ (k < 0 ∧ a0 < -9223372036854775808 - k) ∨ (k < 0 ∧ -9223372036854775808 - k ≤ a0 ∧ a1 < -9223372036854775808 - k)) (w : World) :
    Calls Try.prog 4 #[.int .i64 a0, .int .i64 a1, .int .i64 k, .string s3, .int .i64 a4, .int .i64 a5, .int .i64 a6, .string s7, .string s8, .string s9] w fun e w' => e = .returned (.bool true) ∧ Below w.heap.size w w' := by
  rcases ho with ⟨p, q⟩ | ⟨p, q, q'⟩ | ⟨p, q⟩ | ⟨p, q, q'⟩
  · go_enter Try.func4, Try.ntmps4
    go_wp2_with (first | (go_at_call 8; refine (bytes8 _ _ _ _ _ _ _ _ _ _ h3 h7 h8 h9 _).mono ?_; rintro e w' ⟨⟨r, rfl⟩, rfl⟩))
    all_goals (go_ret; exact ⟨rfl, Below.refl _ _⟩)
  · have q1 : ¬ 9223372036854775807 - k < a0 := by omega
    go_enter Try.func4, Try.ntmps4
    go_wp2_with (first | (go_at_call 8; refine (bytes8 _ _ _ _ _ _ _ _ _ _ h3 h7 h8 h9 _).mono ?_; rintro e w' ⟨⟨r, rfl⟩, rfl⟩))
    all_goals (go_ret; exact ⟨rfl, Below.refl _ _⟩)
  · have q1 : ¬ 0 < k := by omega
    go_enter Try.func4, Try.ntmps4
    go_wp2_with (first | (go_at_call 8; refine (bytes8 _ _ _ _ _ _ _ _ _ _ h3 h7 h8 h9 _).mono ?_; rintro e w' ⟨⟨r, rfl⟩, rfl⟩))
    all_goals (go_ret; exact ⟨rfl, Below.refl _ _⟩)
  · have q1 : ¬ 0 < k := by omega
    have q2 : ¬ a0 < -9223372036854775808 - k := by omega
    go_enter Try.func4, Try.ntmps4
    go_wp2_with (first | (go_at_call 8; refine (bytes8 _ _ _ _ _ _ _ _ _ _ h3 h7 h8 h9 _).mono ?_; rintro e w' ⟨⟨r, rfl⟩, rfl⟩))
    all_goals (go_ret; exact ⟨rfl, Below.refl _ _⟩)

theorem law4 (s3 s7 s8 s9 : ByteArray) (a0 a1 k a4 a5 a6 : Int) (h3 : s3.size ≤ maxLen) (h7 : s7.size ≤ maxLen) (h8 : s8.size ≤ maxLen) (h9 : s9.size ≤ maxLen)
    (x0 : -9223372036854775808 ≤ a0 ∧ a0 ≤ 9223372036854775807) (x1 : -9223372036854775808 ≤ a1 ∧ a1 ≤ 9223372036854775807) (hk : -9223372036854775808 ≤ k ∧ k ≤ 9223372036854775807) (w : World) :
    Calls Try.prog 4 #[.int .i64 a0, .int .i64 a1, .int .i64 k, .string s3, .int .i64 a4, .int .i64 a5, .int .i64 a6, .string s7, .string s8, .string s9] w fun e w' => e = .returned (.bool true) ∧ Below w.heap.size w w' := by
  by_cases ho : (0 < k ∧ 9223372036854775807 - k < a0) ∨ (0 < k ∧ a0 ≤ 9223372036854775807 - k ∧ 9223372036854775807 - k < a1) ∨ (k < 0 ∧ a0 < -9223372036854775808 - k) ∨ (k < 0 ∧ -9223372036854775808 - k ≤ a0 ∧ a1 < -9223372036854775808 - k)
  · exact law4_out s3 s7 s8 s9 a0 a1 k a4 a5 a6 h3 h7 h8 h9 hk.1 hk.2 ho w
  by_cases h : a0 < a1
  · exact law4_up s3 s7 s8 s9 a0 a1 k a4 a5 a6 h3 h7 h8 h9 hk.1 hk.2 h (by omega) (by omega) (by omega) (by omega) (by omega) (by omega) w
  by_cases h' : a1 < a0
  · exact law4_down s3 s7 s8 s9 a0 a1 k a4 a5 a6 h3 h7 h8 h9 hk.1 hk.2 h' (by omega) (by omega) (by omega) (by omega) (by omega) (by omega) w
  · obtain rfl : a0 = a1 := by omega
    exact law4_none s3 s7 s8 s9 a0 k a4 a5 a6 h3 h7 h8 h9 hk.1 hk.2 (by omega) (by omega) (by omega) (by omega) w

end Go.Proofs.Qxb6630453a
