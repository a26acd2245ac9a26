import Derived.Test.Qxb6630489aW1
import Derived.Test.Qxb6630489aM2
import Derived.Test.Qxb6630489aShelf
import Derived.Lib.OthersKept
namespace Go.Proofs.Qxb6630489a
open Go.RowKit

theorem ret_int {k : IntKind} {a b : Int} (h : a = b) : Ending.returned (.int k a) = .returned (.int k b) := by rw [h]

theorem cut_any_neg (s : ByteArray) (n : Int) (h : n < 0) (w : World) :
    Calls Try.prog 8 #[.string s, .int .i64 n] w fun e w' => e = .returned (.int .i64 (cut s n)) ∧ w' = w := by
  go_enter Try.func8, Try.ntmps8
  go_wp2
  go_ret
  exact ⟨ret_int (by rw [cut_neg s h]), rfl⟩

set_option maxHeartbeats 400000 in
theorem cut_any_nat (s : ByteArray) (n : Nat) (hs : s.size ≤ 1048576) (w : World) :
    Calls Try.prog 8 #[.string s, .int .i64 n] w fun e w' => e = .returned (.int .i64 (cut s n)) ∧ w' = w := by
  go_enter Try.func8, Try.ntmps8
  go_wp2
  go_loop [5, 6] (fun i c => ∃ k : Nat, k ≤ n ∧ i = .int .i64 (pos s k) ∧ c = .int .i64 k ∧ k ≤ 1048577) (fun i _ => s.size - (intOf i).toNat)
  case atStart => exact ⟨0, Nat.zero_le _, rfl, rfl, by omega⟩
  case round =>
    obtain ⟨k, hk, rfl, rfl, hk2⟩ := hrel
    have hle := pos_le s k
    by_cases hlt : pos s k < s.size
    · by_cases hc : k < n
      · have hw := wd_bd s _ hlt
        have hwi := wd_int s _ hlt
        have hge := pos_ge s k hlt
        have HS : Hid (pos s (k + 1) = pos s k + wd s (pos s k)) := pos_succ s k hlt
        go_wp2_with (go_at_call 17; refine (width_any s _ hlt hs _).mono ?_; rintro e w' ⟨rfl, rfl⟩)
        go_round
        case rel => exact ⟨k + 1, by omega, by rw [HS.out]; go_num, by go_num, by omega⟩
        case measure => simp [intOf]; omega
      · have hc' : ¬ (k : Int) < n := by omega
        go_wp2
        go_ret
        exact ⟨ret_int (by rw [cut_nat, show k = n by omega]), rfl⟩
    · have hlt' : ¬ (pos s k : Int) < s.size := by omega
      go_wp2
      go_ret
      exact ⟨ret_int (by rw [cut_nat, pos_end s hlt hk]; omega), rfl⟩

theorem cut_any (s : ByteArray) (n : Int) (hs : s.size ≤ 1048576) (w : World) :
    Calls Try.prog 8 #[.string s, .int .i64 n] w fun e w' => e = .returned (.int .i64 (cut s n)) ∧ w' = w := by
  by_cases h : n < 0
  · exact cut_any_neg s n h w
  · obtain ⟨m, rfl⟩ := Int.eq_ofNat_of_zero_le (show 0 ≤ n by omega)
    exact cut_any_nat s m hs w

theorem text_any (s : ByteArray) (w : World) :
    Calls Try.prog 6 #[.string s] w fun e w' => e = .returned (.agg #[.int .u8 2, .int .i64 0, .string s]) ∧ w' = w.alloc (.cells #[.int .u8 2, .int .i64 0, .string s] 25) := by
  go_enter Try.func6, Try.ntmps6
  go_wp2
  exact bodyPost_ret (v := .agg #[.int .u8 2, .int .i64 0, .string s]) (by simp [results, Try.results6, go_sem]) rfl ⟨rfl, rfl⟩

theorem rank_any (r n0 : Int) (s : ByteArray) (w : World) :
    Calls Try.prog 9 #[.agg #[.int .u8 r, .int .i64 n0, .string s]] w fun e w' => e = .returned (.int .u8 r) ∧ w' = w.alloc (.cells #[.int .u8 r, .int .i64 n0, .string s] 25) := by
  go_enter Try.func9, Try.ntmps9
  go_wp2
  go_ret
  exact ⟨rfl, rfl⟩
theorem str_any (r n0 : Int) (s : ByteArray) (w : World) :
    Calls Try.prog 10 #[.agg #[.int .u8 r, .int .i64 n0, .string s]] w fun e w' => e = .returned (.string s) ∧ w' = w.alloc (.cells #[.int .u8 r, .int .i64 n0, .string s] 25) := by
  go_enter Try.func10, Try.ntmps10
  go_wp2
  go_ret
  exact ⟨rfl, rfl⟩
theorem num_any (r n0 : Int) (s : ByteArray) (w : World) :
    Calls Try.prog 11 #[.agg #[.int .u8 r, .int .i64 n0, .string s]] w fun e w' => e = .returned (.int .i64 n0) ∧ w' = w.alloc (.cells #[.int .u8 r, .int .i64 n0, .string s] 25) := by
  go_enter Try.func11, Try.ntmps11
  go_wp2
  go_ret
  exact ⟨rfl, rfl⟩
theorem intv_any (k : Int) (w : World) :
    Calls Try.prog 12 #[.int .i64 k] w fun e w' => e = .returned (.agg #[.int .u8 1, .int .i64 k, .string ⟨#[]⟩]) ∧ w' = w.alloc (.cells #[.int .u8 1, .int .i64 k, .string ⟨#[]⟩] 25) := by
  go_enter Try.func12, Try.ntmps12
  go_wp2
  exact bodyPost_ret (v := .agg #[.int .u8 1, .int .i64 k, .string ⟨#[]⟩]) (by simp [results, Try.results12, go_sem]) rfl ⟨rfl, rfl⟩

theorem clone_any (s : ByteArray) (w : World) (hs : s.size ≤ 1048576) :
    Calls Try.prog 16 #[.string s] w fun e w' => e = .returned (.string s) ∧ Below w.heap.size w w' := by
  go_enter Try.func16, Try.ntmps16
  go_wp2_with (go_at_call 18; refine (slClone s _ (by omega)).mono ?_; rintro e w' ⟨rfl, hb⟩)
  go_ret
  exact ⟨rfl, hb⟩

/-- Prefix of what is no text. -/
theorem pre_other (r n0 n : Int) (s : ByteArray) (hr : (r != 2) = true) (w : World) :
    Calls Try.prog 7 #[.agg #[.int .u8 r, .int .i64 n0, .string s], .int .i64 n] w fun e w' => e = .returned (.agg #[.int .u8 r, .int .i64 n0, .string s]) ∧ Below w.heap.size w w' := by
  go_enter Try.func7, Try.ntmps7
  go_wp2
  exact bodyPost_ret (v := .agg #[.int .u8 r, .int .i64 n0, .string s]) (by simp [results, Try.results7, go_sem]) rfl ⟨rfl, ((Below.refl _ _).alloc (Nat.le_refl _) _).alloc (by simp) _⟩

theorem cell_of_heap {w : World} {b i : Nat} {c : Array Value} {t : TypeId} {m : Nat × Nat} (h : w.heap[b]? = some (.cells c t m)) : w.cell? ⟨b, i, none⟩ = c[i]? := by
  simp [World.cell?, h]
theorem frozen_of_heap {w : World} {b i : Nat} {c : Array Value} {t : TypeId} (h : w.heap[b]? = some (.cells c t)) : w.frozen? ⟨b, i, none⟩ = false := by
  simp [World.frozen?, h]
theorem heap_lt {w : World} {b : Nat} {o : Obj} (h : w.heap[b]? = some o) : b < w.heap.size := (Array.getElem?_eq_some_iff.mp h).1
theorem heap_new (w : World) (o : Obj) (n : Nat) (hn : n = w.heap.size) : (w.alloc o).heap[n]? = some o := by
  subst hn
  show (w.heap.push o)[w.heap.size]? = some o
  simp

/-- Where Prefix's loop stands: its receiver's box, its result's, the iterator at byte p. -/
def At (w : World) (s : ByteArray) (p : Nat) (wr : World) : Prop :=
  wr.heap[w.heap.size]? = some (.cells #[.int .u8 2, .int .i64 0, .string s] 25) ∧ wr.heap[w.heap.size + 1]? = some (.cells #[.int .u8 0, .int .i64 0, .string ⟨#[]⟩] 25) ∧
    wr.heap[w.heap.size + 1 + 1]? = some (.stringIter s p) ∧ Below w.heap.size w wr
theorem At.start (w : World) (s : ByteArray) : At w s 0 (((w.alloc (.cells #[.int .u8 2, .int .i64 0, .string s] 25)).alloc (.cells #[.int .u8 0, .int .i64 0, .string ⟨#[]⟩] 25)).iter s 0) := by
  refine ⟨?_, ?_, ?_, ?_⟩
  · exact (Below.heap_alloc _ _ _ (by simp only [World.size_alloc]; omega)).trans ((Below.heap_alloc _ _ _ (by simp)).trans (heap_new _ _ _ rfl))
  · exact (Below.heap_alloc _ _ _ (by simp)).trans (heap_new _ _ _ (by simp))
  · exact heap_new _ _ _ (by simp)
  · exact (((Below.refl _ _).alloc (Nat.le_refl _) _).alloc (by simp) _).alloc (by simp; omega) _
theorem At.next {w wr : World} {s : ByteArray} {p : Nat} (h : At w s p wr) (p' : Nat) : At w s p' (wr.iterAt (w.heap.size + 1 + 1) s p') :=
  ⟨(Lib.iterAt_other _ _ _ _ _ (by omega)).trans h.1, (Lib.iterAt_other _ _ _ _ _ (by omega)).trans h.2.1, Lib.iterAt_heap _ _ _ _ _ h.2.2.1, Lib.below_iterAt h.2.2.2 (by omega) _ _⟩

set_option maxHeartbeats 1000000 in
/-- Prefix of a text. -/
theorem pre_text (s : ByteArray) (n : Int) (hs : s.size ≤ 1048576) (w : World) :
    Calls Try.prog 7 #[.agg #[.int .u8 2, .int .i64 0, .string s], .int .i64 n] w fun e w' => e = .returned (.agg #[.int .u8 2, .int .i64 0, .string (s.extract 0 (cut s n))]) ∧ Below w.heap.size w w' := by
  have hstart := At.start w s
  go_enter Try.func7, Try.ntmps7
  go_wp2
  generalize (((w.alloc (.cells #[.int .u8 2, .int .i64 0, .string s] 25)).alloc (.cells #[.int .u8 0, .int .i64 0, .string ⟨#[]⟩] 25)).iter s 0) = w3 at *
  go_loopw [5] (fun cnt wr => ∃ c : Nat, cnt = .int .i64 c ∧ (n < 0 ∨ (c : Int) ≤ n) ∧ c ≤ 1048577 ∧ At w s (pos s c) wr) (fun cnt _ => s.size - (intOf cnt).toNat)
  case atStart => exact ⟨0, rfl, by omega, by omega, hstart⟩
  case round =>
    obtain ⟨c, rfl, hcn, hc2, hat⟩ := hrel
    have hle := pos_le s c
    by_cases hlt : pos s c < s.size
    · have hw := wd_bd s _ hlt
      have hge := pos_ge s c hlt
      obtain ⟨wn, hnx, hatn⟩ : ∃ wn, (∀ ty, (Instr.next (.pointer (some ⟨w.heap.size + 1 + 1, 0, none⟩)) true ty).run Try.prog wr = .ok (.tuple #[.bool true, .int .i64 (pos s c), .int .i32 (Utf8.decode s (pos s c)).1]) wn) ∧ At w s (pos s (c + 1)) wn := by
        refine ⟨_, fun ty => ?_, hat.next (pos s (c + 1))⟩
        rw [Lib.run_next_any_at wr _ s _ ty hat.2.2.1 hlt, decode_wd s _ hlt, pos_succ s c hlt]
      obtain ⟨hb0, hb1, hit, hbe⟩ := id hatn
      have k2 := cell_of_heap (i := 2) hb0
      have r0 := cell_of_heap (i := 0) hb1
      have r1 := cell_of_heap (i := 1) hb1
      have r2 := cell_of_heap (i := 2) hb1
      have f0 := frozen_of_heap (i := 0) hb1
      have f1 := frozen_of_heap (i := 1) hb1
      have f2 := frozen_of_heap (i := 2) hb1
      have lN := heap_lt hb1
      simp at k2 r0 r1 r2
      have hHat : Hid (At w s (pos s (c + 1)) wn) := hatn
      clear hat hatn hb0 hb1 hit
      by_cases hq : (c : Int) = n
      · have hq' : ((c : Int) == n) = true := by simpa using hq
        have hq2 : Hid ((c : Int) = n) := hq
        clear hq
        go_wp2_with fail
        refine (clone_any _ _ (by simp only [ByteArray.size_extract]; omega)).mono ?_
        rintro e w4 ⟨rfl, hb4⟩
        have R0 := (hb4.cell (p := ⟨w.heap.size + 1, 0, none⟩) lN).trans r0
        have R1 := (hb4.cell (p := ⟨w.heap.size + 1, 1, none⟩) lN).trans r1
        have R2 := (hb4.cell (p := ⟨w.heap.size + 1, 2, none⟩) lN).trans r2
        have F0 := (hb4.frozen (p := ⟨w.heap.size + 1, 0, none⟩) lN).trans f0
        have F1 := (hb4.frozen (p := ⟨w.heap.size + 1, 1, none⟩) lN).trans f1
        have F2 := (hb4.frozen (p := ⟨w.heap.size + 1, 2, none⟩) lN).trans f2
        have lN4 : w.heap.size + 1 < w4.heap.size := Nat.lt_of_lt_of_le lN hb4.size
        have hbe4 : Below w.heap.size w w4 := hbe.trans (hb4.mono (by omega))
        clear r0 r1 r2 f0 f1 f2 hb4 k2
        go_wp2_with (go_at_call 6; refine (text_any _ _).mono ?_; rintro e w5 ⟨rfl, rfl⟩)
        have hcut : cut s n = pos s c := by rw [← hq2.out, cut_nat]
        refine bodyPost_ret (v := .agg #[.int .u8 2, .int .i64 0, .string (s.extract 0 (pos s c))]) (by simp [results, Try.results7, go_sem, R0, R1, R2, lN4]) rfl ⟨by rw [hcut], ?_⟩
        have hN : w.heap.size ≤ w.heap.size + 1 := by omega
        exact ((((hbe4.setCell (p := ⟨w.heap.size + 1, 0, none⟩) hN _).setCell (p := ⟨w.heap.size + 1, 1, none⟩) hN _).setCell (p := ⟨w.heap.size + 1, 2, none⟩) hN _).alloc (by simp; omega) _)
      · have hq' : ((c : Int) == n) = false := by simpa using hq
        have hq2 : Hid ((c : Int) ≠ n) := hq
        clear hq
        go_wp2_with fail
        go_roundw
        case rel => exact ⟨c + 1, by go_num, by have := hq2.out; omega, by omega, hHat.out⟩
        case measure => simp [intOf]; omega
    · have hnx : ∀ ty, (Instr.next (.pointer (some ⟨w.heap.size + 1 + 1, 0, none⟩)) true ty).run Try.prog wr = .ok (.tuple #[.bool false]) wr := fun ty => Lib.run_next_end_at wr _ s _ ty hat.2.2.1 hlt
      obtain ⟨hb0, hb1, hit, hbe⟩ := hat
      have k0 := cell_of_heap (i := 0) hb0
      have k1 := cell_of_heap (i := 1) hb0
      have k2 := cell_of_heap (i := 2) hb0
      have r0 := cell_of_heap (i := 0) hb1
      have r1 := cell_of_heap (i := 1) hb1
      have r2 := cell_of_heap (i := 2) hb1
      have f0 := frozen_of_heap (i := 0) hb1
      have f1 := frozen_of_heap (i := 1) hb1
      have f2 := frozen_of_heap (i := 2) hb1
      simp at k0 k1 k2 r0 r1 r2
      clear hb0 hb1 hit
      go_wp2
      have hcut : cut s n = s.size := by
        by_cases h : n < 0
        · exact cut_neg s h
        · obtain ⟨m, rfl⟩ := Int.eq_ofNat_of_zero_le (show 0 ≤ n by omega)
          rw [cut_nat]; exact pos_end s hlt (by omega)
      refine bodyPost_ret (v := .agg #[.int .u8 2, .int .i64 0, .string s]) (by simp [results, Try.results7, go_sem, r0, r1, r2]) rfl ⟨by rw [hcut]; simp, ?_⟩
      have hN : w.heap.size ≤ w.heap.size + 1 := by omega
      exact (((hbe.setCell (p := ⟨w.heap.size + 1, 0, none⟩) hN _).setCell (p := ⟨w.heap.size + 1, 1, none⟩) hN _).setCell (p := ⟨w.heap.size + 1, 2, none⟩) hN _)

end Go.Proofs.Qxb6630489a
