import Derived.Test.Qxb6630489aRows
import Derived.Test.Qxb6630489aM1
import Derived.WalkKit
import Derived.WalkSpells
import Derived.WalkLawsBesides
import Derived.StillTactics
import Derived.Laws.Pointers
import Derived.Deep.QuietTactic
import Derived.BigQuiet
namespace Go.Proofs.Qxb6630489a
open Go.RowKit
set_option maxRecDepth 100000
set_option maxHeartbeats 1000000

theorem ret_wv {a : Int} {b : Bool} {p : Int × Bool} (h : (a, b) = p) : Ending.returned (.tuple #[.int .i64 a, .bool b]) = .returned (.tuple #[.int .i64 p.1, .bool p.2]) := by rw [← h]

theorem width_A (s : ByteArray) (k : Nat) (hk : k < s.size) (h1 : (s[k].toNat : Int) < 128) (w : World) :
    Calls Try.prog 17 #[.string s, .int .i64 k] w fun e w' => e = .returned (.tuple #[.int .i64 (wv s k).1, .bool (wv s k).2]) ∧ w' = w := by
  have hk' : (k : Int) < s.size := by omega
  have e0 := bAt_of hk
  go_enter Try.func17, Try.ntmps17
  go_wp2
  go_ret2
  exact ⟨ret_wv (zw_1 (by omega)), rfl⟩

/-! ### A byte that begins nothing -/
theorem width_I1 (s : ByteArray) (k : Nat) (hk : k < s.size) (_hs : s.size ≤ 1048576) (h1 : 128 ≤ (s[k].toNat : Int)) (h2 : (s[k].toNat : Int) < 194) (w : World) :
    Calls Try.prog 17 #[.string s, .int .i64 k] w fun e w' => e = .returned (.tuple #[.int .i64 (wv s k).1, .bool (wv s k).2]) ∧ w' = w := by
  have hk' : (k : Int) < s.size := by omega
  have e0 := bAt_of hk
  have q224 : ((s[k].toNat : Int) == 224) = false := by simp; omega
  have q238 : ((s[k].toNat : Int) == 238) = false := by simp; omega
  have q239 : ((s[k].toNat : Int) == 239) = false := by simp; omega
  have q237 : ((s[k].toNat : Int) == 237) = false := by simp; omega
  have q240 : ((s[k].toNat : Int) == 240) = false := by simp; omega
  have q244 : ((s[k].toNat : Int) == 244) = false := by simp; omega
  go_enter Try.func17, Try.ntmps17
  go_wp2
  go_ret2
  exact ⟨ret_wv (zw_bad (by omega)), rfl⟩

theorem width_I2 (s : ByteArray) (k : Nat) (hk : k < s.size) (_hs : s.size ≤ 1048576) (h1 : 244 < (s[k].toNat : Int)) (w : World) :
    Calls Try.prog 17 #[.string s, .int .i64 k] w fun e w' => e = .returned (.tuple #[.int .i64 (wv s k).1, .bool (wv s k).2]) ∧ w' = w := by
  have hk' : (k : Int) < s.size := by omega
  have e0 := bAt_of hk
  have q224 : ((s[k].toNat : Int) == 224) = false := by simp; omega
  have q238 : ((s[k].toNat : Int) == 238) = false := by simp; omega
  have q239 : ((s[k].toNat : Int) == 239) = false := by simp; omega
  have q237 : ((s[k].toNat : Int) == 237) = false := by simp; omega
  have q240 : ((s[k].toNat : Int) == 240) = false := by simp; omega
  have q244 : ((s[k].toNat : Int) == 244) = false := by simp; omega
  go_enter Try.func17, Try.ntmps17
  go_wp2
  go_ret2
  exact ⟨ret_wv (zw_bad (by omega)), rfl⟩

/-! ### Two, three, four bytes -/
theorem width_B (s : ByteArray) (k : Nat) (hk : k < s.size) (hs : s.size ≤ 1048576) (h1 : 194 ≤ (s[k].toNat : Int)) (h2 : (s[k].toNat : Int) ≤ 223) (w : World) :
    Calls Try.prog 17 #[.string s, .int .i64 k] w fun e w' => e = .returned (.tuple #[.int .i64 (wv s k).1, .bool (wv s k).2]) ∧ w' = w := by
  have hk' : (k : Int) < s.size := by omega
  have e0 := bAt_of hk
  have q224 : ((s[k].toNat : Int) == 224) = false := by simp; omega
  have q238 : ((s[k].toNat : Int) == 238) = false := by simp; omega
  have q239 : ((s[k].toNat : Int) == 239) = false := by simp; omega
  have q237 : ((s[k].toNat : Int) == 237) = false := by simp; omega
  have q240 : ((s[k].toNat : Int) == 240) = false := by simp; omega
  have q244 : ((s[k].toNat : Int) == 244) = false := by simp; omega
  by_cases hn : k + 1 < s.size
  · have n1 : k + 1 < s.size := by omega
    have n1' : (k : Int) + 1 < s.size := by omega
    have e1 := bAt_of n1
    go_enter Try.func17, Try.ntmps17
    go_wp2
    all_goals first
      | (go_ret2; exact ⟨ret_wv (zw_bad (by omega)), rfl⟩)
      | skip
    refine wp_loop_rounds 1 ?_
    rw [rounds_succ]
    go_wp2
    go_ret2
    exact ⟨ret_wv (zw_2 (by omega)), rfl⟩
  · have hn' : (s.size : Int) - k < 2 := by omega
    go_enter Try.func17, Try.ntmps17
    go_wp2
    go_ret2
    exact ⟨ret_wv (zw_bad (by omega)), rfl⟩

theorem width_C (s : ByteArray) (k : Nat) (hk : k < s.size) (hs : s.size ≤ 1048576) (h1 : (s[k].toNat : Int) = 224) (w : World) :
    Calls Try.prog 17 #[.string s, .int .i64 k] w fun e w' => e = .returned (.tuple #[.int .i64 (wv s k).1, .bool (wv s k).2]) ∧ w' = w := by
  have hk' : (k : Int) < s.size := by omega
  have e0 := bAt_of hk
  have q224 : ((s[k].toNat : Int) == 224) = true := by simp; omega
  have q238 : ((s[k].toNat : Int) == 238) = false := by simp; omega
  have q239 : ((s[k].toNat : Int) == 239) = false := by simp; omega
  have q237 : ((s[k].toNat : Int) == 237) = false := by simp; omega
  have q240 : ((s[k].toNat : Int) == 240) = false := by simp; omega
  have q244 : ((s[k].toNat : Int) == 244) = false := by simp; omega
  by_cases hn : k + 2 < s.size
  · have n1 : k + 1 < s.size := by omega
    have n1' : (k : Int) + 1 < s.size := by omega
    have e1 := bAt_of n1
    have n2 : k + 2 < s.size := by omega
    have n2' : (k : Int) + 2 < s.size := by omega
    have e2 := bAt_of n2
    go_enter Try.func17, Try.ntmps17
    go_wp2
    all_goals first
      | (go_ret2; exact ⟨ret_wv (zw_bad (by omega)), rfl⟩)
      | skip
    refine wp_loop_rounds 2 ?_
    rw [rounds_succ]
    go_wp2
    all_goals first
      | (go_ret2; exact ⟨ret_wv (zw_bad (by omega)), rfl⟩)
      | skip
    rw [rounds_succ]
    go_wp2
    go_ret2
    exact ⟨ret_wv (zw_3 (by omega)), rfl⟩
  · have hn' : (s.size : Int) - k < 3 := by omega
    go_enter Try.func17, Try.ntmps17
    go_wp2
    go_ret2
    exact ⟨ret_wv (zw_bad (by omega)), rfl⟩

theorem width_D (s : ByteArray) (k : Nat) (hk : k < s.size) (hs : s.size ≤ 1048576) (h1 : 225 ≤ (s[k].toNat : Int)) (h2 : (s[k].toNat : Int) ≤ 236) (w : World) :
    Calls Try.prog 17 #[.string s, .int .i64 k] w fun e w' => e = .returned (.tuple #[.int .i64 (wv s k).1, .bool (wv s k).2]) ∧ w' = w := by
  have hk' : (k : Int) < s.size := by omega
  have e0 := bAt_of hk
  have q224 : ((s[k].toNat : Int) == 224) = false := by simp; omega
  have q238 : ((s[k].toNat : Int) == 238) = false := by simp; omega
  have q239 : ((s[k].toNat : Int) == 239) = false := by simp; omega
  have q237 : ((s[k].toNat : Int) == 237) = false := by simp; omega
  have q240 : ((s[k].toNat : Int) == 240) = false := by simp; omega
  have q244 : ((s[k].toNat : Int) == 244) = false := by simp; omega
  by_cases hn : k + 2 < s.size
  · have n1 : k + 1 < s.size := by omega
    have n1' : (k : Int) + 1 < s.size := by omega
    have e1 := bAt_of n1
    have n2 : k + 2 < s.size := by omega
    have n2' : (k : Int) + 2 < s.size := by omega
    have e2 := bAt_of n2
    go_enter Try.func17, Try.ntmps17
    go_wp2
    all_goals first
      | (go_ret2; exact ⟨ret_wv (zw_bad (by omega)), rfl⟩)
      | skip
    refine wp_loop_rounds 2 ?_
    rw [rounds_succ]
    go_wp2
    all_goals first
      | (go_ret2; exact ⟨ret_wv (zw_bad (by omega)), rfl⟩)
      | skip
    rw [rounds_succ]
    go_wp2
    go_ret2
    exact ⟨ret_wv (zw_3 (by omega)), rfl⟩
  · have hn' : (s.size : Int) - k < 3 := by omega
    go_enter Try.func17, Try.ntmps17
    go_wp2
    go_ret2
    exact ⟨ret_wv (zw_bad (by omega)), rfl⟩

theorem width_D2 (s : ByteArray) (k : Nat) (hk : k < s.size) (hs : s.size ≤ 1048576) (h1 : (s[k].toNat : Int) = 238) (w : World) :
    Calls Try.prog 17 #[.string s, .int .i64 k] w fun e w' => e = .returned (.tuple #[.int .i64 (wv s k).1, .bool (wv s k).2]) ∧ w' = w := by
  have hk' : (k : Int) < s.size := by omega
  have e0 := bAt_of hk
  have q224 : ((s[k].toNat : Int) == 224) = false := by simp; omega
  have q238 : ((s[k].toNat : Int) == 238) = true := by simp; omega
  have q239 : ((s[k].toNat : Int) == 239) = false := by simp; omega
  have q237 : ((s[k].toNat : Int) == 237) = false := by simp; omega
  have q240 : ((s[k].toNat : Int) == 240) = false := by simp; omega
  have q244 : ((s[k].toNat : Int) == 244) = false := by simp; omega
  by_cases hn : k + 2 < s.size
  · have n1 : k + 1 < s.size := by omega
    have n1' : (k : Int) + 1 < s.size := by omega
    have e1 := bAt_of n1
    have n2 : k + 2 < s.size := by omega
    have n2' : (k : Int) + 2 < s.size := by omega
    have e2 := bAt_of n2
    go_enter Try.func17, Try.ntmps17
    go_wp2
    all_goals first
      | (go_ret2; exact ⟨ret_wv (zw_bad (by omega)), rfl⟩)
      | skip
    refine wp_loop_rounds 2 ?_
    rw [rounds_succ]
    go_wp2
    all_goals first
      | (go_ret2; exact ⟨ret_wv (zw_bad (by omega)), rfl⟩)
      | skip
    rw [rounds_succ]
    go_wp2
    go_ret2
    exact ⟨ret_wv (zw_3 (by omega)), rfl⟩
  · have hn' : (s.size : Int) - k < 3 := by omega
    go_enter Try.func17, Try.ntmps17
    go_wp2
    go_ret2
    exact ⟨ret_wv (zw_bad (by omega)), rfl⟩

theorem width_D3 (s : ByteArray) (k : Nat) (hk : k < s.size) (hs : s.size ≤ 1048576) (h1 : (s[k].toNat : Int) = 239) (w : World) :
    Calls Try.prog 17 #[.string s, .int .i64 k] w fun e w' => e = .returned (.tuple #[.int .i64 (wv s k).1, .bool (wv s k).2]) ∧ w' = w := by
  have hk' : (k : Int) < s.size := by omega
  have e0 := bAt_of hk
  have q224 : ((s[k].toNat : Int) == 224) = false := by simp; omega
  have q238 : ((s[k].toNat : Int) == 238) = false := by simp; omega
  have q239 : ((s[k].toNat : Int) == 239) = true := by simp; omega
  have q237 : ((s[k].toNat : Int) == 237) = false := by simp; omega
  have q240 : ((s[k].toNat : Int) == 240) = false := by simp; omega
  have q244 : ((s[k].toNat : Int) == 244) = false := by simp; omega
  by_cases hn : k + 2 < s.size
  · have n1 : k + 1 < s.size := by omega
    have n1' : (k : Int) + 1 < s.size := by omega
    have e1 := bAt_of n1
    have n2 : k + 2 < s.size := by omega
    have n2' : (k : Int) + 2 < s.size := by omega
    have e2 := bAt_of n2
    go_enter Try.func17, Try.ntmps17
    go_wp2
    all_goals first
      | (go_ret2; exact ⟨ret_wv (zw_bad (by omega)), rfl⟩)
      | skip
    refine wp_loop_rounds 2 ?_
    rw [rounds_succ]
    go_wp2
    all_goals first
      | (go_ret2; exact ⟨ret_wv (zw_bad (by omega)), rfl⟩)
      | skip
    rw [rounds_succ]
    go_wp2
    go_ret2
    exact ⟨ret_wv (zw_3 (by omega)), rfl⟩
  · have hn' : (s.size : Int) - k < 3 := by omega
    go_enter Try.func17, Try.ntmps17
    go_wp2
    go_ret2
    exact ⟨ret_wv (zw_bad (by omega)), rfl⟩

theorem width_E (s : ByteArray) (k : Nat) (hk : k < s.size) (hs : s.size ≤ 1048576) (h1 : (s[k].toNat : Int) = 237) (w : World) :
    Calls Try.prog 17 #[.string s, .int .i64 k] w fun e w' => e = .returned (.tuple #[.int .i64 (wv s k).1, .bool (wv s k).2]) ∧ w' = w := by
  have hk' : (k : Int) < s.size := by omega
  have e0 := bAt_of hk
  have q224 : ((s[k].toNat : Int) == 224) = false := by simp; omega
  have q238 : ((s[k].toNat : Int) == 238) = false := by simp; omega
  have q239 : ((s[k].toNat : Int) == 239) = false := by simp; omega
  have q237 : ((s[k].toNat : Int) == 237) = true := by simp; omega
  have q240 : ((s[k].toNat : Int) == 240) = false := by simp; omega
  have q244 : ((s[k].toNat : Int) == 244) = false := by simp; omega
  by_cases hn : k + 2 < s.size
  · have n1 : k + 1 < s.size := by omega
    have n1' : (k : Int) + 1 < s.size := by omega
    have e1 := bAt_of n1
    have n2 : k + 2 < s.size := by omega
    have n2' : (k : Int) + 2 < s.size := by omega
    have e2 := bAt_of n2
    go_enter Try.func17, Try.ntmps17
    go_wp2
    all_goals first
      | (go_ret2; exact ⟨ret_wv (zw_bad (by omega)), rfl⟩)
      | skip
    refine wp_loop_rounds 2 ?_
    rw [rounds_succ]
    go_wp2
    all_goals first
      | (go_ret2; exact ⟨ret_wv (zw_bad (by omega)), rfl⟩)
      | skip
    rw [rounds_succ]
    go_wp2
    go_ret2
    exact ⟨ret_wv (zw_3 (by omega)), rfl⟩
  · have hn' : (s.size : Int) - k < 3 := by omega
    go_enter Try.func17, Try.ntmps17
    go_wp2
    go_ret2
    exact ⟨ret_wv (zw_bad (by omega)), rfl⟩

theorem width_F (s : ByteArray) (k : Nat) (hk : k < s.size) (hs : s.size ≤ 1048576) (h1 : (s[k].toNat : Int) = 240) (w : World) :
    Calls Try.prog 17 #[.string s, .int .i64 k] w fun e w' => e = .returned (.tuple #[.int .i64 (wv s k).1, .bool (wv s k).2]) ∧ w' = w := by
  have hk' : (k : Int) < s.size := by omega
  have e0 := bAt_of hk
  have q224 : ((s[k].toNat : Int) == 224) = false := by simp; omega
  have q238 : ((s[k].toNat : Int) == 238) = false := by simp; omega
  have q239 : ((s[k].toNat : Int) == 239) = false := by simp; omega
  have q237 : ((s[k].toNat : Int) == 237) = false := by simp; omega
  have q240 : ((s[k].toNat : Int) == 240) = true := by simp; omega
  have q244 : ((s[k].toNat : Int) == 244) = false := by simp; omega
  by_cases hn : k + 3 < s.size
  · have n1 : k + 1 < s.size := by omega
    have n1' : (k : Int) + 1 < s.size := by omega
    have e1 := bAt_of n1
    have n2 : k + 2 < s.size := by omega
    have n2' : (k : Int) + 2 < s.size := by omega
    have e2 := bAt_of n2
    have n3 : k + 3 < s.size := by omega
    have n3' : (k : Int) + 3 < s.size := by omega
    have e3 := bAt_of n3
    go_enter Try.func17, Try.ntmps17
    go_wp2
    all_goals first
      | (go_ret2; exact ⟨ret_wv (zw_bad (by omega)), rfl⟩)
      | skip
    refine wp_loop_rounds 3 ?_
    rw [rounds_succ]
    go_wp2
    all_goals first
      | (go_ret2; exact ⟨ret_wv (zw_bad (by omega)), rfl⟩)
      | skip
    rw [rounds_succ]
    go_wp2
    all_goals first
      | (go_ret2; exact ⟨ret_wv (zw_bad (by omega)), rfl⟩)
      | skip
    rw [rounds_succ]
    go_wp2
    go_ret2
    exact ⟨ret_wv (zw_4 (by omega)), rfl⟩
  · have hn' : (s.size : Int) - k < 4 := by omega
    go_enter Try.func17, Try.ntmps17
    go_wp2
    go_ret2
    exact ⟨ret_wv (zw_bad (by omega)), rfl⟩

theorem width_G (s : ByteArray) (k : Nat) (hk : k < s.size) (hs : s.size ≤ 1048576) (h1 : 241 ≤ (s[k].toNat : Int)) (h2 : (s[k].toNat : Int) ≤ 243) (w : World) :
    Calls Try.prog 17 #[.string s, .int .i64 k] w fun e w' => e = .returned (.tuple #[.int .i64 (wv s k).1, .bool (wv s k).2]) ∧ w' = w := by
  have hk' : (k : Int) < s.size := by omega
  have e0 := bAt_of hk
  have q224 : ((s[k].toNat : Int) == 224) = false := by simp; omega
  have q238 : ((s[k].toNat : Int) == 238) = false := by simp; omega
  have q239 : ((s[k].toNat : Int) == 239) = false := by simp; omega
  have q237 : ((s[k].toNat : Int) == 237) = false := by simp; omega
  have q240 : ((s[k].toNat : Int) == 240) = false := by simp; omega
  have q244 : ((s[k].toNat : Int) == 244) = false := by simp; omega
  by_cases hn : k + 3 < s.size
  · have n1 : k + 1 < s.size := by omega
    have n1' : (k : Int) + 1 < s.size := by omega
    have e1 := bAt_of n1
    have n2 : k + 2 < s.size := by omega
    have n2' : (k : Int) + 2 < s.size := by omega
    have e2 := bAt_of n2
    have n3 : k + 3 < s.size := by omega
    have n3' : (k : Int) + 3 < s.size := by omega
    have e3 := bAt_of n3
    go_enter Try.func17, Try.ntmps17
    go_wp2
    all_goals first
      | (go_ret2; exact ⟨ret_wv (zw_bad (by omega)), rfl⟩)
      | skip
    refine wp_loop_rounds 3 ?_
    rw [rounds_succ]
    go_wp2
    all_goals first
      | (go_ret2; exact ⟨ret_wv (zw_bad (by omega)), rfl⟩)
      | skip
    rw [rounds_succ]
    go_wp2
    all_goals first
      | (go_ret2; exact ⟨ret_wv (zw_bad (by omega)), rfl⟩)
      | skip
    rw [rounds_succ]
    go_wp2
    go_ret2
    exact ⟨ret_wv (zw_4 (by omega)), rfl⟩
  · have hn' : (s.size : Int) - k < 4 := by omega
    go_enter Try.func17, Try.ntmps17
    go_wp2
    go_ret2
    exact ⟨ret_wv (zw_bad (by omega)), rfl⟩

theorem width_H (s : ByteArray) (k : Nat) (hk : k < s.size) (hs : s.size ≤ 1048576) (h1 : (s[k].toNat : Int) = 244) (w : World) :
    Calls Try.prog 17 #[.string s, .int .i64 k] w fun e w' => e = .returned (.tuple #[.int .i64 (wv s k).1, .bool (wv s k).2]) ∧ w' = w := by
  have hk' : (k : Int) < s.size := by omega
  have e0 := bAt_of hk
  have q224 : ((s[k].toNat : Int) == 224) = false := by simp; omega
  have q238 : ((s[k].toNat : Int) == 238) = false := by simp; omega
  have q239 : ((s[k].toNat : Int) == 239) = false := by simp; omega
  have q237 : ((s[k].toNat : Int) == 237) = false := by simp; omega
  have q240 : ((s[k].toNat : Int) == 240) = false := by simp; omega
  have q244 : ((s[k].toNat : Int) == 244) = true := by simp; omega
  by_cases hn : k + 3 < s.size
  · have n1 : k + 1 < s.size := by omega
    have n1' : (k : Int) + 1 < s.size := by omega
    have e1 := bAt_of n1
    have n2 : k + 2 < s.size := by omega
    have n2' : (k : Int) + 2 < s.size := by omega
    have e2 := bAt_of n2
    have n3 : k + 3 < s.size := by omega
    have n3' : (k : Int) + 3 < s.size := by omega
    have e3 := bAt_of n3
    go_enter Try.func17, Try.ntmps17
    go_wp2
    all_goals first
      | (go_ret2; exact ⟨ret_wv (zw_bad (by omega)), rfl⟩)
      | skip
    refine wp_loop_rounds 3 ?_
    rw [rounds_succ]
    go_wp2
    all_goals first
      | (go_ret2; exact ⟨ret_wv (zw_bad (by omega)), rfl⟩)
      | skip
    rw [rounds_succ]
    go_wp2
    all_goals first
      | (go_ret2; exact ⟨ret_wv (zw_bad (by omega)), rfl⟩)
      | skip
    rw [rounds_succ]
    go_wp2
    go_ret2
    exact ⟨ret_wv (zw_4 (by omega)), rfl⟩
  · have hn' : (s.size : Int) - k < 4 := by omega
    go_enter Try.func17, Try.ntmps17
    go_wp2
    go_ret2
    exact ⟨ret_wv (zw_bad (by omega)), rfl⟩

/-- zzWidth at every place of every string. -/
theorem width_any (s : ByteArray) (k : Nat) (hk : k < s.size) (hs : s.size ≤ 1048576) (w : World) :
    Calls Try.prog 17 #[.string s, .int .i64 k] w fun e w' => e = .returned (.tuple #[.int .i64 (wv s k).1, .bool (wv s k).2]) ∧ w' = w := by
  by_cases hA : (s[k].toNat : Int) < 128
  · exact width_A s k hk hA w
  by_cases hI : (s[k].toNat : Int) < 194
  · exact width_I1 s k hk hs (by omega) hI w
  by_cases hB : (s[k].toNat : Int) ≤ 223
  · exact width_B s k hk hs (by omega) hB w
  by_cases hC : (s[k].toNat : Int) = 224
  · exact width_C s k hk hs hC w
  by_cases hD : (s[k].toNat : Int) ≤ 236
  · exact width_D s k hk hs (by omega) hD w
  by_cases hE : (s[k].toNat : Int) = 237
  · exact width_E s k hk hs hE w
  by_cases hD2 : (s[k].toNat : Int) = 238
  · exact width_D2 s k hk hs hD2 w
  by_cases hD3 : (s[k].toNat : Int) = 239
  · exact width_D3 s k hk hs hD3 w
  by_cases hF : (s[k].toNat : Int) = 240
  · exact width_F s k hk hs hF w
  by_cases hG : (s[k].toNat : Int) ≤ 243
  · exact width_G s k hk hs (by omega) hG w
  by_cases hH : (s[k].toNat : Int) = 244
  · exact width_H s k hk hs hH w
  · exact width_I2 s k hk hs (by omega) w

end Go.Proofs.Qxb6630489a
