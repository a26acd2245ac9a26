import Derived.Test.Qxb6630489aW3
import Derived.Test.Qxb6630489aM4
namespace Go.Proofs.Qxb6630489a
open Go.RowKit

/-- c characters end at byte L, fewer before it. -/
def IsCount (s : ByteArray) (L c : Nat) : Prop := pos s c = L ∧ ∀ j, j < c → pos s j < L
theorem IsCount.unique {s : ByteArray} {L c d : Nat} (h : IsCount s L c) (k : IsCount s L d) : c = d := by
  by_cases h1 : c < d
  · have := k.2 c h1; rw [h.1] at this; omega
  by_cases h2 : d < c
  · have := h.2 d h2; rw [k.1] at this; omega
  · omega
theorem IsCount.of_lt {s : ByteArray} {c m : Nat} (h : IsCount s (pos s m) c) (hm : pos s m < s.size) : c = m := by
  by_cases h1 : m < c
  · have := h.2 m h1; omega
  by_cases h2 : c < m
  · have h3 : pos s c < s.size := by rw [h.1]; exact hm
    have h4 := pos_succ s c h3
    have h5 := wd_bd s _ h3
    have h6 := pos_mono s (show c + 1 ≤ m by omega)
    have h7 := h.1
    omega
  · omega
theorem pos_full (s : ByteArray) : pos s s.size = s.size := by
  by_cases h : pos s s.size < s.size
  · have := pos_ge s _ h; omega
  · have := pos_le s s.size; omega
theorem cut_pos (s : ByteArray) (n : Int) : ∃ m, cut s n = pos s m := by
  by_cases h : n < 0
  · exact ⟨s.size, by rw [cut_neg s h, pos_full]⟩
  · exact ⟨n.toNat, by rw [cut, if_neg h]⟩

theorem ret_cb {a : Int} {b : Bool} (h : b = true) : Ending.returned (.tuple #[.int .i64 a, .bool b]) = .returned (.tuple #[.int .i64 a, .bool true]) := by rw [h]

set_option maxHeartbeats 400000 in
theorem count_any (s : ByteArray) (m L : Nat) (hLe : pos s m = L) (hs : s.size ≤ 1048576) (w : World) :
    Calls Try.prog 14 #[.string s, .int .i64 L] w fun e w' => (∃ c : Nat, e = .returned (.tuple #[.int .i64 c, .bool true]) ∧ IsCount s L c ∧ c ≤ 1048577) ∧ w = w' := by
  have hL := pos_le s m
  rw [hLe] at hL
  have HL : Hid (pos s m = L) := hLe
  clear hLe
  go_enter Try.func14, Try.ntmps14
  go_wp2
  go_loop [6, 7] (fun i c => ∃ k : Nat, (∀ j, j < k → pos s j < L) ∧ i = .int .i64 (pos s k) ∧ c = .int .i64 k ∧ k ≤ 1048577) (fun i _ => s.size - (intOf i).toNat)
  case atStart => exact ⟨0, fun j hj => by omega, rfl, rfl, by omega⟩
  case round =>
    obtain ⟨k, hj, rfl, rfl, hk2⟩ := hrel
    have Hj : Hid (∀ j, j < k → pos s j < L) := hj
    clear hj
    have hle := pos_le s k
    by_cases hlt : pos s k < L
    · have hlt2 : pos s k < s.size := by omega
      have hw := wd_bd s _ hlt2
      have hwi := wd_int s _ hlt2
      have hge := pos_ge s k hlt2
      have HS : Hid (pos s (k + 1) = pos s k + wd s (pos s k)) := pos_succ s k hlt2
      go_wp2_with (go_at_call 17; refine (width_any s _ hlt2 hs _).mono ?_; rintro e w' ⟨rfl, rfl⟩)
      go_round
      case rel => exact ⟨k + 1, fun j hj => by
                      by_cases e : j = k
                      · subst e; exact hlt
                      · exact Hj.out j (by omega), by rw [HS.out]; go_num, by go_num, by omega⟩
      case measure => simp [intOf]; omega
    · have hlt' : ¬ (pos s k : Int) < L := by omega
      have hkm : k ≤ m := by
        by_cases e : m < k
        · have := Hj.out m e; have := HL.out; omega
        · omega
      have hmono := pos_mono s hkm
      have heq : pos s k = L := by have := HL.out; omega
      have HE : Hid (pos s k = L) := heq
      clear heq
      go_wp2
      go_ret2
      exact ⟨⟨k, ret_cb (by rw [HE.out]; simp), ⟨HE.out, Hj.out⟩, hk2⟩, rfl⟩

/-- zzValid's answer: a bool that is true only where s is sound. -/
def Vret (s : ByteArray) (e : Ending) : Prop := ∃ r : Bool, e = .returned (.bool r) ∧ (r = true → Sound s)

set_option maxHeartbeats 400000 in
theorem valid_any (s : ByteArray) (hs : s.size ≤ 1048576) (w : World) :
    Calls Try.prog 15 #[.string s] w fun e w' => Vret s e ∧ w = w' := by
  go_enter Try.func15, Try.ntmps15
  go_wp2
  go_loop [3] (fun i => ∃ k : Nat, (∀ j, j < k → (wv s (pos s j)).2 = true) ∧ i = .int .i64 (pos s k)) (fun i => s.size - (intOf i).toNat)
  case atStart => exact ⟨0, fun j hj => by omega, rfl⟩
  case round =>
    obtain ⟨k, hj, rfl⟩ := hrel
    have Hj : Hid (∀ j, j < k → (wv s (pos s j)).2 = true) := hj
    clear hj
    have hle := pos_le s k
    by_cases hlt : pos s k < s.size
    · have hw := wd_bd s _ hlt
      have hwi := wd_int s _ hlt
      have HS : Hid (pos s (k + 1) = pos s k + wd s (pos s k)) := pos_succ s k hlt
      cases hv : (wv s (pos s k)).2 with
      | true =>
        go_wp2_with (go_at_call 17; refine (width_any s _ hlt hs _).mono ?_; rintro e w' ⟨rfl, rfl⟩)
        go_round
        case rel => exact ⟨k + 1, fun j hj => by
                      by_cases e : j = k
                      · subst e; exact hv
                      · exact Hj.out j (by omega), by rw [HS.out]; go_num⟩
        case measure => simp [intOf]; omega
      | false =>
        go_wp2_with (go_at_call 17; refine (width_any s _ hlt hs _).mono ?_; rintro e w' ⟨rfl, rfl⟩)
        go_ret
        exact ⟨⟨false, rfl, fun h => by cases h⟩, rfl⟩
    · have hlt' : ¬ (pos s k : Int) < s.size := by omega
      go_wp2
      go_ret
      refine ⟨⟨true, rfl, fun _ => ?_⟩, rfl⟩
      intro j hj
      by_cases e : j < k
      · exact Hj.out j e
      · have := pos_mono s (show k ≤ j by omega); omega

theorem bytes13 (a b : ByteArray) (n m : Int) (ha : a.size ≤ maxLen) (hb : b.size ≤ maxLen) (w : World) :
    Calls Try.prog 13 #[.string a, .string b, .int .i64 n, .int .i64 m] w fun e w' => (∃ r, e = .returned (.bool r)) ∧ w = w' := by
  unfold maxLen at ha hb
  go_enter Try.func13, Try.ntmps13
  go_wp2
  all_goals (go_ret; exact ⟨⟨_, rfl⟩, rfl⟩)

theorem pre_T (s : ByteArray) (n : Int) (hs : s.size ≤ 1048576) (w : World) :
    Calls Try.prog 7 #[.agg #[.int .u8 2, .int .i64 0, .string s], .int .i64 n] w fun e w' => e = .returned (.agg #[.int .u8 2, .int .i64 0, .string (T s n)]) ∧ Below w.heap.size w w' := pre_text s n hs w

/-- The count at which the composed cut is taken. -/
def kOf (n m : Int) : Int := if n < 0 then m else if 0 ≤ m ∧ m < n then m else n
theorem T_comp (s : ByteArray) (n m : Int) : T (T s n) m = T s (kOf n m) := by
  unfold kOf
  by_cases hn : n < 0
  · rw [if_pos hn, T_neg s hn]
  rw [if_neg hn]
  by_cases hm : m < 0
  · rw [if_neg (by omega), T_neg _ hm]
  obtain ⟨N, rfl⟩ := Int.eq_ofNat_of_zero_le (show 0 ≤ n by omega)
  obtain ⟨M, rfl⟩ := Int.eq_ofNat_of_zero_le (show 0 ≤ m by omega)
  rw [T_T]
  by_cases h : (M : Int) < N
  · rw [if_pos ⟨by omega, h⟩, show min M N = M by omega]
  · rw [if_neg (by omega), show min M N = N by omega]

/-- How many characters the cut holds: n of them, or all. -/
theorem count_want (s : ByteArray) (n : Int) (c1 c2 : Nat) (h1 : IsCount s (cut s n) c1) (h2 : IsCount s s.size c2) : (0 ≤ n ∧ n < c2 → (c1 : Int) = n) ∧ (¬ (0 ≤ n ∧ n < c2) → (c1 : Int) = c2) := by
  by_cases hn : n < 0
  · rw [cut_neg s hn] at h1
    have := h1.unique h2
    exact ⟨fun h => by omega, fun _ => by omega⟩
  obtain ⟨N, rfl⟩ := Int.eq_ofNat_of_zero_le (show 0 ≤ n by omega)
  rw [cut_nat] at h1
  by_cases hc : N < c2
  · have := h2.2 N hc
    have := h1.of_lt this
    exact ⟨fun _ => by omega, fun h => absurd ⟨by omega, by omega⟩ h⟩
  · have e : pos s N = s.size := by
      have := pos_mono s (show c2 ≤ N by omega); have := pos_le s N; have := h2.1; omega
    rw [e] at h1
    have := h1.unique h2
    exact ⟨fun h => by omega, fun _ => by omega⟩

end Go.Proofs.Qxb6630489a
