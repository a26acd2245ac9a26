import Derived.Test.Qxb6630453aRows
import Derived.WalkKit
import Derived.WalkSpells
import Derived.WalkLawsBesides
import Derived.StillTactics
import Derived.Laws.Pointers
import Derived.Deep.RegionHeld3
import Derived.Deep.DrawnRows
import Derived.Deep.QuietTactic
import Derived.BigQuiet
namespace Go.Proofs.Qxb6630453a
open Go.RowKit

theorem alloc_drewN (w : World) (o : Obj) (n : Nat) : (w.drewN n).alloc o = (w.alloc o).drewN n := rfl
theorem setCell_drewN (w : World) (a : Addr) (v : Value) (n : Nat) : (w.drewN n).setCell a v = (w.setCell a v).drewN n := rfl
attribute [local go_sem] alloc_drewN setCell_drewN

theorem set_up (b : Nat) (c t : Int) (s : ByteArray) (h : c < t) (w : World) (h3 : w.cell? ⟨b, 3, none⟩ = some (.int .i64 c)) (h7 : w.cell? ⟨b, 7, none⟩ = some (.int .i64 t))
    (h8 : w.cell? ⟨b, 8, none⟩ = some (.string s)) (hf : w.frozen? ⟨b, 8, none⟩ = false) :
    Calls Try.prog 6 #[.pointer (some ⟨b, 0, none⟩)] w fun e w' => e = .returned (.tuple #[]) ∧ ∃ n, w' = (w.setCell ⟨b, 8, none⟩ (.string ⟨#[115, 99, 97, 108, 101, 45, 117, 112]⟩)).drewN n := by
  go_enter Try.func6, Try.ntmps6
  go_wp2
  go_quiet (fail)
  go_wp2
  go_end0
  exact ⟨rfl, _, rfl⟩

theorem set_down (b : Nat) (c t : Int) (s : ByteArray) (h : t < c) (w : World) (h3 : w.cell? ⟨b, 3, none⟩ = some (.int .i64 c)) (h7 : w.cell? ⟨b, 7, none⟩ = some (.int .i64 t))
    (h8 : w.cell? ⟨b, 8, none⟩ = some (.string s)) (hf : w.frozen? ⟨b, 8, none⟩ = false) :
    Calls Try.prog 6 #[.pointer (some ⟨b, 0, none⟩)] w fun e w' => e = .returned (.tuple #[]) ∧ ∃ n, w' = (w.setCell ⟨b, 8, none⟩ (.string ⟨#[115, 99, 97, 108, 101, 45, 100, 111, 119, 110]⟩)).drewN n := by
  have h' : ¬ c < t := by omega
  go_enter Try.func6, Try.ntmps6
  go_wp2
  go_quiet (fail)
  go_wp2
  go_quiet (fail)
  go_wp2
  go_end0
  exact ⟨rfl, _, rfl⟩

theorem set_none (b : Nat) (c : Int) (s : ByteArray) (w : World) (h3 : w.cell? ⟨b, 3, none⟩ = some (.int .i64 c)) (h7 : w.cell? ⟨b, 7, none⟩ = some (.int .i64 c))
    (h8 : w.cell? ⟨b, 8, none⟩ = some (.string s)) (hf : w.frozen? ⟨b, 8, none⟩ = false) :
    Calls Try.prog 6 #[.pointer (some ⟨b, 0, none⟩)] w fun e w' => e = .returned (.tuple #[]) ∧ ∃ n, w' = (w.setCell ⟨b, 8, none⟩ (.string ⟨#[110, 111, 45, 99, 104, 97, 110, 103, 101]⟩)).drewN n := by
  go_enter Try.func6, Try.ntmps6
  go_wp2
  go_quiet (fail)
  go_wp2
  go_quiet (fail)
  go_wp2
  go_end0
  exact ⟨rfl, _, rfl⟩

theorem bytes5 (s6 s0 s7 : ByteArray) (a1 a2 a3 a4 a5 : Int) (h0 : s0.size ≤ maxLen) (h6 : s6.size ≤ maxLen) (h7 : s7.size ≤ maxLen) (w : World) :
    Calls Try.prog 5 #[.string s0, .int .i64 a1, .int .i64 a2, .int .i64 a3, .int .i64 a4, .int .i64 a5, .string s6, .string s7] w fun e w' => (∃ r, e = .returned (.bool r)) ∧ w' = w := by
  unfold maxLen at h0 h6 h7
  go_enter Try.func5, Try.ntmps5
  go_wp2
  all_goals (go_ret; exact ⟨⟨_, rfl⟩, rfl⟩)

theorem valid_up (w : World) : Calls Try.prog 7 #[.string ⟨#[115, 99, 97, 108, 101, 45, 117, 112]⟩] w fun e w' => e = .returned (.bool true) ∧ w' = w := by
  go_enter Try.func7, Try.ntmps7
  go_wp2
  go_ret
  exact ⟨rfl, rfl⟩
theorem valid_down (w : World) : Calls Try.prog 7 #[.string ⟨#[115, 99, 97, 108, 101, 45, 100, 111, 119, 110]⟩] w fun e w' => e = .returned (.bool true) ∧ w' = w := by
  go_enter Try.func7, Try.ntmps7
  go_wp2
  go_ret
  exact ⟨rfl, rfl⟩
theorem valid_none (w : World) : Calls Try.prog 7 #[.string ⟨#[110, 111, 45, 99, 104, 97, 110, 103, 101]⟩] w fun e w' => e = .returned (.bool true) ∧ w' = w := by
  go_enter Try.func7, Try.ntmps7
  go_wp2
  go_ret
  exact ⟨rfl, rfl⟩

theorem valid_any (s : ByteArray) (h : s = ⟨#[115, 99, 97, 108, 101, 45, 117, 112]⟩ ∨ s = ⟨#[115, 99, 97, 108, 101, 45, 100, 111, 119, 110]⟩ ∨ s = ⟨#[110, 111, 45, 99, 104, 97, 110, 103, 101]⟩) (w : World) :
    Calls Try.prog 7 #[.string s] w fun e w' => e = .returned (.bool true) ∧ w' = w := by
  rcases h with rfl | rfl | rfl
  · exact valid_up w
  · exact valid_down w
  · exact valid_none w

end Go.Proofs.Qxb6630453a
