import Derived.Test.Qxb6630489aM1
namespace Go.Proofs.Qxb6630489a

/-- The width of the character at byte k. -/
def wd (s : ByteArray) (k : Nat) : Nat := (wv s k).1.toNat
theorem wd_int (s : ByteArray) (k : Nat) (h : k < s.size) : (wv s k).1 = (wd s k : Int) := by
  have := wv_bd s k h; unfold wd; omega
theorem wd_bd (s : ByteArray) (k : Nat) (h : k < s.size) : 1 ≤ wd s k ∧ k + wd s k ≤ s.size ∧ wd s k ≤ 4 := by
  have := wv_bd s k h; unfold wd; omega
theorem decode_wd (s : ByteArray) (k : Nat) (h : k < s.size) : (Utf8.decode s k).2 = wd s k := by
  have := decode_wv s k h; rw [wd_int s k h] at this; omega

/-- The byte offset behind the first n characters (all of them where there are fewer). -/
def pos (s : ByteArray) : Nat → Nat
  | 0 => 0
  | n + 1 => if pos s n < s.size then pos s n + wd s (pos s n) else pos s n
theorem pos_succ (s : ByteArray) (n : Nat) (h : pos s n < s.size) : pos s (n + 1) = pos s n + wd s (pos s n) := by rw [pos, if_pos h]
theorem pos_stop (s : ByteArray) (n : Nat) (h : ¬ pos s n < s.size) : pos s (n + 1) = pos s n := by rw [pos, if_neg h]
theorem pos_le (s : ByteArray) : ∀ n, pos s n ≤ s.size
  | 0 => Nat.zero_le _
  | n + 1 => by
    by_cases h : pos s n < s.size
    · rw [pos_succ s n h]; have := wd_bd s _ h; omega
    · rw [pos_stop s n h]; exact pos_le s n
theorem pos_mono (s : ByteArray) {m n : Nat} (h : m ≤ n) : pos s m ≤ pos s n := by
  induction n with
  | zero => obtain rfl : m = 0 := by omega
            exact Nat.le_refl _
  | succ n ih =>
    by_cases e : m = n + 1
    · subst e; exact Nat.le_refl _
    · have := ih (by omega)
      by_cases h : pos s n < s.size
      · rw [pos_succ s n h]; omega
      · rw [pos_stop s n h]; omega
theorem pos_ge (s : ByteArray) : ∀ n, pos s n < s.size → n ≤ pos s n
  | 0, _ => Nat.zero_le _
  | n + 1, h => by
    have hn : pos s n < s.size := by
      have := pos_mono s (show n ≤ n + 1 by omega); omega
    have := pos_ge s n hn
    have hw := wd_bd s _ hn
    rw [pos_succ s n hn]; omega
theorem pos_end (s : ByteArray) {m n : Nat} (h : ¬ pos s m < s.size) (hmn : m ≤ n) : pos s n = s.size := by
  have := pos_mono s hmn; have := pos_le s n; omega

/-- What zzCut answers: how many bytes of s its first n characters take. -/
def cut (s : ByteArray) (n : Int) : Nat := if n < 0 then s.size else pos s n.toNat
theorem cut_le (s : ByteArray) (n : Int) : cut s n ≤ s.size := by
  unfold cut; split
  · exact Nat.le_refl _
  · exact pos_le _ _
theorem cut_neg (s : ByteArray) {n : Int} (h : n < 0) : cut s n = s.size := if_pos h
theorem cut_nat (s : ByteArray) (n : Nat) : cut s (n : Int) = pos s n := by rw [cut, if_neg (by omega)]; rfl

end Go.Proofs.Qxb6630489a
