import Derived.Test.Qxb6630489aW4
import Derived.Deep.DeepCutAuto
import Derived.Laws.StructEq
namespace Go.Proofs.Qxb6630489a
open Go.RowKit
set_option maxRecDepth 100000

theorem law_out (a b : ByteArray) (n m : Int) (ha : a.size ≤ maxLen) (hb : b.size ≤ maxLen) (ho : ¬ a.size + b.size ≤ 1048576) (w : World) :
    Calls Try.prog 4 #[.string a, .string b, .int .i64 n, .int .i64 m] w fun e w' => e = .returned (.bool true) ∧ Below w.heap.size w w' := by
  by_cases h1 : (1048576 : Int) < a.size
  · go_enter Try.func4, Try.ntmps4
    go_wp2_with (first | (go_at_call 13; refine (bytes13 _ _ _ _ ha hb _).mono ?_; rintro e w' ⟨⟨r, rfl⟩, rfl⟩))
    all_goals (go_ret; exact ⟨rfl, Below.refl _ _⟩)
  by_cases h2 : (1048576 : Int) < b.size
  · go_enter Try.func4, Try.ntmps4
    go_wp2_with (first | (go_at_call 13; refine (bytes13 _ _ _ _ ha hb _).mono ?_; rintro e w' ⟨⟨r, rfl⟩, rfl⟩))
    all_goals (go_ret; exact ⟨rfl, Below.refl _ _⟩)
  · have h3 : (1048576 : Int) < (a.size : Int) + b.size := by omega
    have h4 : (a.size : Int) ≤ 1048576 := by omega
    have h5 : (b.size : Int) ≤ 1048576 := by omega
    go_enter Try.func4, Try.ntmps4
    go_wp2_with (first | (go_at_call 13; refine (bytes13 _ _ _ _ ha hb _).mono ?_; rintro e w' ⟨⟨r, rfl⟩, rfl⟩))
    all_goals (go_ret; exact ⟨rfl, Below.refl _ _⟩)

theorem val_same (w : World) (x : ByteArray) : (binOp .eql 25 (.agg #[.int .u8 2, .int .i64 0, .string x]) (.agg #[.int .u8 2, .int .i64 0, .string x])).run Try.prog w = .ok (.bool true) w := by
  have hS : Try.prog.underlying 25 = some (.struct (Try.prog.fieldsOf 25)) := by kernel_rfl
  have hp : Try.prog.stoodInHeld 25 = false := by kernel_rfl
  have u2 := Try.underlying2
  have u9 := Try.underlying9
  have u23 := Try.underlying23
  rw [run_eql_struct, show (10000 : Nat) = 9999 + 1 from rfl, run_equalIn_agg w 9999 25 _ _ hS hp]
  simp only [Program.fieldsOf, Try.underlying25]
  go_simp

set_option maxHeartbeats 1000000 in
theorem law_in (a b : ByteArray) (n m : Int) (ha : a.size ≤ maxLen) (hb : b.size ≤ maxLen) (hs : a.size + b.size ≤ 1048576) (w : World) :
    Calls Try.prog 4 #[.string a, .string b, .int .i64 n, .int .i64 m] w fun e w' => e = .returned (.bool true) ∧ Below w.heap.size w w' := by
  have g1 : (a.size : Int) ≤ 1048576 := by omega
  have g2 : (b.size : Int) ≤ 1048576 := by omega
  have g3 : (a.size : Int) + b.size ≤ 1048576 := by omega
  have hcl := cut_le a n
  have hcl' : (cut a n : Int) ≤ a.size := by omega
  have hTs := T_size a n
  have hTe : a.extract 0 (cut a n) = T a n := rfl
  have hsame := val_same
  go_enter Try.func4, Try.ntmps4
  go_upto_if 72 with (first | (go_at_call 13; refine (bytes13 _ _ _ _ ha hb _).mono ?_; rintro e w' ⟨⟨r, rfl⟩, rfl⟩) | (go_at_call 6; refine (text_any _ _).mono ?_; rintro e w' ⟨rfl, rfl⟩) | (go_at_call 7; refine (pre_T a n (by omega) _).mono ?_; rintro e w1 ⟨rfl, hb1⟩) | (go_at_call 9; refine (rank_any _ _ _ _).mono ?_; rintro e w' ⟨rfl, rfl⟩) | (go_at_call 10; refine (str_any _ _ _ _).mono ?_; rintro e w' ⟨rfl, rfl⟩) | (go_at_call 11; refine (num_any _ _ _ _).mono ?_; rintro e w' ⟨rfl, rfl⟩))
  · go_ret
    exact ⟨rfl, Below.refl _ _⟩
  have hpa : ((((w1.alloc (.cells #[.int .u8 2, .int .i64 0, .string (T a n)] 25)).alloc (.cells #[.int .u8 2, .int .i64 0, .string (T a n)] 25)).alloc (.cells #[.int .u8 2, .int .i64 0, .string (T a n)] 25)).alloc (.cells #[.int .u8 2, .int .i64 0, .string (T a n)] 25)).heap[w1.heap.size]? = some (.cells #[.int .u8 2, .int .i64 0, .string (T a n)] 25) :=
    (Below.heap_alloc _ _ _ (by simp only [World.size_alloc]; omega)).trans ((Below.heap_alloc _ _ _ (by simp only [World.size_alloc]; omega)).trans ((Below.heap_alloc _ _ _ (by simp)).trans (heap_new _ _ _ rfl)))
  have hBA : Below w.heap.size w ((((w1.alloc (.cells #[.int .u8 2, .int .i64 0, .string (T a n)] 25)).alloc (.cells #[.int .u8 2, .int .i64 0, .string (T a n)] 25)).alloc (.cells #[.int .u8 2, .int .i64 0, .string (T a n)] 25)).alloc (.cells #[.int .u8 2, .int .i64 0, .string (T a n)] 25)) := by
    have B1 : Below w.heap.size w w1 := ((Below.refl _ _).alloc (Nat.le_refl _) _).trans (hb1.mono (by simp))
    have hz := B1.size
    exact (((B1.alloc hz _).alloc (by simp; omega) _).alloc (by simp; omega) _).alloc (by simp; omega) _
  generalize ((((w1.alloc (.cells #[.int .u8 2, .int .i64 0, .string (T a n)] 25)).alloc (.cells #[.int .u8 2, .int .i64 0, .string (T a n)] 25)).alloc (.cells #[.int .u8 2, .int .i64 0, .string (T a n)] 25)).alloc (.cells #[.int .u8 2, .int .i64 0, .string (T a n)] 25)) = wA at *
  clear hb1
  generalize w1.heap.size = pb at *
  go_cut [11] (fun s11 wx => s11 = .bool true ∧ wA = wx)
  case first =>
    obtain ⟨M, hM⟩ := cut_pos a n
    have hM' := hM.symm
    have HM : Hid (pos a M = cut a n) := hM'
    clear hM hM'
    go_wp2_with fail
    refine (count_any a M _ HM.out (by omega) _).mono ?_
    rintro e w2 ⟨⟨c1, rfl, hc1, hc1b⟩, rfl⟩
    have Hc1 : Hid (IsCount a (cut a n) c1) := hc1
    clear hc1
    go_wp2_with fail
    refine (count_any a a.size _ (pos_full a) (by omega) _).mono ?_
    rintro e w3 ⟨⟨c2, rfl, hc2, hc2b⟩, rfl⟩
    obtain ⟨q1, q2⟩ := count_want a n c1 c2 Hc1.out hc2
    have Q1 : Hid (0 ≤ n ∧ n < (c2 : Int) → (c1 : Int) = n) := q1
    have Q2 : Hid (¬ (0 ≤ n ∧ n < (c2 : Int)) → (c1 : Int) = c2) := q2
    clear q1 q2 hc2 Hc1 HM
    by_cases hn0 : 0 ≤ n
    · by_cases hn1 : n < c2
      · have e1 : ((c1 : Int) == n) = true := by simpa using Q1.out ⟨hn0, hn1⟩
        go_wp2_with fail
        go_meet
        exact ⟨rfl, rfl⟩
      · have e1 : ((c1 : Int) == c2) = true := by simpa using Q2.out (by omega)
        go_wp2_with fail
        go_meet
        exact ⟨rfl, rfl⟩
    · have e1 : ((c1 : Int) == c2) = true := by simpa using Q2.out (by omega)
      go_wp2_with fail
      go_meet
      exact ⟨rfl, rfl⟩
  case rest =>
  obtain ⟨rfl, rfl⟩ := hcut
  go_upto_if 104 with fail
  go_cut [17] (fun s17 wx => s17 = .int .i64 (kOf n m) ∧ wA = wx)
  case first =>
    by_cases hn0 : n < 0
    · have hk : kOf n m = m := if_pos hn0
      have Hk : Hid (kOf n m = m) := hk
      clear hk
      go_wp2_with fail
      go_meet
      exact ⟨by rw [Hk.out], rfl⟩
    · by_cases hm0 : 0 ≤ m
      · by_cases hm1 : m < n
        · have hk : kOf n m = m := by rw [kOf, if_neg hn0, if_pos ⟨hm0, hm1⟩]
          have Hk : Hid (kOf n m = m) := hk
          clear hk
          go_wp2_with fail
          go_meet
          exact ⟨by rw [Hk.out], rfl⟩
        · have hk : kOf n m = n := by rw [kOf, if_neg hn0, if_neg (fun h => hm1 h.2)]
          have Hk : Hid (kOf n m = n) := hk
          clear hk
          go_wp2_with fail
          go_meet
          exact ⟨by rw [Hk.out], rfl⟩
      · have hk : kOf n m = n := by rw [kOf, if_neg hn0, if_neg (fun h => hm0 h.1)]
        have Hk : Hid (kOf n m = n) := hk
        clear hk
        go_wp2_with fail
        go_meet
        exact ⟨by rw [Hk.out], rfl⟩
  case rest =>
  obtain ⟨rfl, rfl⟩ := hcut
  have hTT := T_comp a n m
  have p0 := cell_of_heap (i := 0) hpa
  have p1 := cell_of_heap (i := 1) hpa
  have p2 := cell_of_heap (i := 2) hpa
  simp at p0 p1 p2
  clear hpa
  go_wp2_with fail
  refine (pre_T (T a n) m (by omega) _).mono ?_
  rintro e w5 ⟨rfl, hb5⟩
  go_wp2_with (first | (go_at_call 6; refine (text_any _ _).mono ?_; rintro e w' ⟨rfl, rfl⟩))
  refine (pre_T a (kOf n m) (by omega) _).mono ?_
  rintro e w6 ⟨rfl, hb6⟩
  have B6 : Below w.heap.size w w6 := by
    have hz := hBA.size
    have B5 : Below w.heap.size w w5 := hBA.trans (hb5.mono hz)
    have hz5 := B5.size
    exact (B5.alloc hz5 _).trans (hb6.mono (by simp; omega))
  clear hb5 hb6 hBA p0 p1 p2 hTT
  go_wp2_with fail
  refine (valid_any a (by omega) _).mono ?_
  rintro e w7 ⟨⟨r1, rfl, hr1⟩, rfl⟩
  cases r1 with
  | false =>
    clear hr1
    go_wp2
    go_ret
    exact ⟨rfl, B6⟩
  | true =>
  have HA : Hid (Sound a) := hr1 rfl
  clear hr1
  go_wp2_with fail
  refine (valid_any b (by omega) _).mono ?_
  rintro e w8 ⟨⟨r2, rfl, hr2⟩, rfl⟩
  cases r2 with
  | false =>
    clear hr2
    go_wp2
    go_ret
    exact ⟨rfl, B6⟩
  | true =>
  have HB : Hid (Sound b) := hr2 rfl
  clear hr2
  go_wp2_with (first | (go_at_call 6; refine (text_any _ _).mono ?_; rintro e w' ⟨rfl, rfl⟩))
  refine (pre_T b n (by omega) _).mono ?_
  rintro e w9 ⟨rfl, hb9⟩
  have B9 : Below w.heap.size w w9 := by
    have hz := B6.size
    exact (B6.alloc hz _).trans (hb9.mono (by simp; omega))
  clear hb9 B6
  cases hle : le a.data.toList b.data.toList with
  | true =>
    have F1 : (Op.bytesLess a.toList b.toList || a.toList == b.toList) = true := by rw [ByteArray.toList_eq, ByteArray.toList_eq]; exact hle
    have F2 : (Op.bytesLess (T a n).toList (T b n).toList || (T a n).toList == (T b n).toList) = true := by rw [ByteArray.toList_eq, ByteArray.toList_eq]; exact T_le a b n HA.out HB.out hle
    clear hle
    go_wp2_with (first | (go_at_call 10; refine (str_any _ _ _ _).mono ?_; rintro e w' ⟨rfl, rfl⟩))
    go_ret
    exact ⟨rfl, B9.alloc B9.size _⟩
  | false =>
    have hle' := le_total _ _ hle
    have F1 : (Op.bytesLess a.toList b.toList || a.toList == b.toList) = false := by rw [ByteArray.toList_eq, ByteArray.toList_eq]; exact hle
    have F2 : (Op.bytesLess (T b n).toList (T a n).toList || (T b n).toList == (T a n).toList) = true := by rw [ByteArray.toList_eq, ByteArray.toList_eq]; exact T_le b a n HB.out HA.out hle'
    clear hle hle'
    go_wp2_with (first | (go_at_call 10; refine (str_any _ _ _ _).mono ?_; rintro e w' ⟨rfl, rfl⟩))
    go_ret
    exact ⟨rfl, B9.alloc B9.size _⟩

theorem law_composes (a b : ByteArray) (n m : Int) (ha : a.size ≤ maxLen) (hb : b.size ≤ maxLen) (w : World) :
    Calls Try.prog 4 #[.string a, .string b, .int .i64 n, .int .i64 m] w fun e w' => e = .returned (.bool true) ∧ Below w.heap.size w w' := by
  by_cases h : a.size + b.size ≤ 1048576
  · exact law_in a b n m ha hb h w
  · exact law_out a b n m ha hb h w

end Go.Proofs.Qxb6630489a
