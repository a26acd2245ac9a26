import Derived.Test.Qxb6630415aW5
namespace Go.Proofs.Qxb6630415a
open Go.RowKit
attribute [local go_sem ↓] Go.wp_at_zero Go.wp_at_succ

theorem intCmp_same (b1 b2 : Nat) (a1 a2 : Option Addr) (n1 n2 c1 c2 : Nat) (neg : Bool) (r : Int) (hr0 : -1 ≤ r) (hr1 : r ≤ 1) (w : World) (hne : b1 ≠ b2)
    (hb : w.heap[b1]? = some (.cells #[.bool neg, .slice a1 n1 c1] 34))
    (hx : w.heap[b2]? = some (.cells #[.bool neg, .slice a2 n2 c2] 34))
    (hcmp : ∀ wx : World, wx.heap = w.heap → Calls Try.prog 23 #[.slice a1 n1 c1, .slice a2 n2 c2] wx fun e w' => e = .returned (.int .i64 r) ∧ ∃ m, w' = wx.drewN m) :
    Calls Try.prog 12 #[.pointer (some ⟨b1, 0, none⟩), .pointer (some ⟨b2, 0, none⟩)] w fun e w' => e = .returned (.int .i64 (if neg then -r else r)) ∧ ∃ n, w' = w.drewN n := by
  have hc0 := cell_of_heap (i := 0) hb
  have hc1 := cell_of_heap (i := 1) hb
  have hd0 := cell_of_heap (i := 0) hx
  have hd1 := cell_of_heap (i := 1) hx
  have hq := ptrs_eql w b1 b2 hne _ _ hb hx
  simp at hc0 hc1 hd0 hd1
  clear hb hx
  go_enter Try.func12, Try.ntmps12
  go_wp2
  go_quiet (fail)
  go_wp2
  go_quiet ((go_at_call 23; refine (hcmp _ ?_).mono ?_; rfl; rintro e w' ⟨rfl, m, rfl⟩; refine ⟨rfl, ?_⟩; simp only [World.drewN_drewN, Nat.add_assoc]; exact ⟨_, rfl⟩))
  cases neg
  · go_wp2
    go_ret
    refine ⟨rfl, ?_⟩
    exact ⟨_, rfl⟩
  · go_wp2
    go_ret
    refine ⟨rfl, ?_⟩
    exact ⟨_, rfl⟩

theorem intCmp_diff (b1 b2 : Nat) (a1 a2 : Option Addr) (n1 n2 c1 c2 : Nat) (neg : Bool) (w : World) (hne : b1 ≠ b2)
    (hb : w.heap[b1]? = some (.cells #[.bool neg, .slice a1 n1 c1] 34))
    (hx : w.heap[b2]? = some (.cells #[.bool (!neg), .slice a2 n2 c2] 34)) :
    Calls Try.prog 12 #[.pointer (some ⟨b1, 0, none⟩), .pointer (some ⟨b2, 0, none⟩)] w fun e w' => e = .returned (.int .i64 (if neg then -1 else 1)) ∧ ∃ n, w' = w.drewN n := by
  have hc0 := cell_of_heap (i := 0) hb
  have hd0 := cell_of_heap (i := 0) hx
  have hq := ptrs_eql w b1 b2 hne _ _ hb hx
  simp at hc0 hd0
  clear hb hx
  cases neg
  · simp at hd0
    go_enter Try.func12, Try.ntmps12
    go_wp2
    go_quiet (fail)
    go_wp2
    go_ret
    exact ⟨rfl, _, rfl⟩
  · simp at hd0
    go_enter Try.func12, Try.ntmps12
    go_wp2
    go_quiet (fail)
    go_wp2
    go_ret
    exact ⟨rfl, _, rfl⟩

end Go.Proofs.Qxb6630415a
