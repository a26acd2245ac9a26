import Derived.Test.Qxb6630453aW2
import Derived.Deep.DeepCutAuto
import Derived.Laws.StructEq
namespace Go.Proofs.Qxb6630453a
open Go.RowKit
attribute [local go_sem] alloc_drewN setCell_drewN run_store_float

theorem bytes8 (s3 s7 s8 s9 : ByteArray) (a0 a1 a2 a4 a5 a6 : Int) (h3 : s3.size ≤ maxLen) (h7 : s7.size ≤ maxLen) (h8 : s8.size ≤ maxLen) (h9 : s9.size ≤ maxLen) (w : World) :
    Calls Try.prog 8 #[.int .i64 a0, .int .i64 a1, .int .i64 a2, .string s3, .int .i64 a4, .int .i64 a5, .int .i64 a6, .string s7, .string s8, .string s9] w fun e w' => (∃ r, e = .returned (.bool r)) ∧ w = w' := by
  unfold maxLen at h3 h7 h8 h9
  go_enter Try.func8, Try.ntmps8
  go_wp2
  all_goals (go_ret; exact ⟨⟨_, rfl⟩, rfl⟩)

theorem num_eq (w : World) : (Op.equalIn 9999 26 (.agg #[.float .f64 0, .string ⟨#[]⟩]) (.agg #[.float .f64 0, .string ⟨#[]⟩])).run Try.prog w = .ok true w := by kernel_rfl

set_option maxRecDepth 100000 in
theorem dec_same (w : World) (s0 s1 s2 : ByteArray) (c0 c1 c2 c3 c4 : Int) :
    (binOp .neq 28 (.agg #[.string s0, .float .f64 0, .string ⟨#[]⟩, .int .i64 c0, .int .i64 c1, .int .i64 c2, .int .i64 c3, .int .i64 c4, .string s1, .string s2])
      (.agg #[.string s0, .float .f64 0, .string ⟨#[]⟩, .int .i64 c0, .int .i64 c1, .int .i64 c2, .int .i64 c3, .int .i64 c4, .string s1, .string s2])).run Try.prog w = .ok (.bool false) w := by
  have hS : Try.prog.underlying 28 = some (.struct (Try.prog.fieldsOf 28)) := by kernel_rfl
  have hp : Try.prog.stoodInHeld 28 = false := by kernel_rfl
  have hn := num_eq
  have u3 := Try.underlying3
  have u9 := Try.underlying9
  have u23 := Try.underlying23
  rw [run_neq_struct, show (10000 : Nat) = 9999 + 1 from rfl, run_equalIn_agg w 9999 28 _ _ hS hp]
  simp only [Program.fieldsOf, Try.underlying28]
  go_simp

end Go.Proofs.Qxb6630453a
