import Derived.Test.Qxb6630415aW4
import Derived.Deep.RegionWith
import Derived.LaidEqlPtr
namespace Go.Proofs.Qxb6630415a
open Go.RowKit
attribute [local go_sem ↓] Go.wp_at_zero Go.wp_at_succ

theorem cell_of_heap {w : World} {b i : Nat} {c : Array Value} {t : TypeId} {m : Nat × Nat} (h : w.heap[b]? = some (.cells c t m)) : w.cell? ⟨b, i, none⟩ = c[i]? := by
  simp [World.cell?, h]
theorem frozen_of_heap {w : World} {b i : Nat} {c : Array Value} {t : TypeId} (h : w.heap[b]? = some (.cells c t)) : w.frozen? ⟨b, i, none⟩ = false := by
  simp [World.frozen?, h]
theorem heap_setCell_same {w : World} {b i : Nat} {c : Array Value} {t : TypeId} {m : Nat × Nat} (v : Value) (h : w.heap[b]? = some (.cells c t m)) :
    (w.setCell ⟨b, i, none⟩ v).heap[b]? = some (.cells (c.setIfInBounds i v) t m) := by
  simp [World.setCell, Array.getElem?_modify, h]
theorem heap_lt {w : World} {b : Nat} {o : Obj} (h : w.heap[b]? = some o) : b < w.heap.size := by
  exact (Array.getElem?_eq_some_iff.mp h).1

theorem ptrs_neq (w : World) (b bx : Nat) (hne : b ≠ bx) (c c' : Array Value) (hb : w.heap[b]? = some (.cells c 34)) (hx : w.heap[bx]? = some (.cells c' 34)) :
    (binOp .neq 22 (.pointer (some ⟨b, 0, none⟩)) (.pointer (some ⟨bx, 0, none⟩))).run Try.prog w = .ok (.bool true) w := by
  have hne' : (⟨b, 0, none⟩ : Addr) ≠ ⟨bx, 0, none⟩ := fun e => hne (congrArg Addr.block e)
  have hi : ∃ j, Try.prog.info? 34 = some j ∧ j.size ≠ 0 := by
    have : (Try.prog.info? 34).map (·.size) = some 2 := by kernel_rfl
    cases h : Try.prog.info? 34 with
    | none => simp [h] at this
    | some j => simp [h] at this; exact ⟨j, rfl, by omega⟩
  obtain ⟨j, hj, hsz⟩ := hi
  have h : ∀ d : Nat, (Op.equalIn (d + 1) 22 (.pointer (some ⟨b, 0, none⟩)) (.pointer (some ⟨bx, 0, none⟩))).run Try.prog w = .ok false w := fun d => by
    simp [Op.equalIn, run_underlying Try.underlying22, sizeOf, typeInfo, hj, hsz, run_sameAddr_other w hne' hb hx]
  simp only [binOp]
  simp [Op.equal, Op.maxDepth, h 9999]

theorem ptrs_eql (w : World) (b bx : Nat) (hne : b ≠ bx) (c c' : Array Value) (hb : w.heap[b]? = some (.cells c 34)) (hx : w.heap[bx]? = some (.cells c' 34)) :
    (binOp .eql 22 (.pointer (some ⟨b, 0, none⟩)) (.pointer (some ⟨bx, 0, none⟩))).run Try.prog w = .ok (.bool false) w := by
  have hne' : (⟨b, 0, none⟩ : Addr) ≠ ⟨bx, 0, none⟩ := fun e => hne (congrArg Addr.block e)
  have hi : ∃ j, Try.prog.info? 34 = some j ∧ j.size ≠ 0 := by
    have : (Try.prog.info? 34).map (·.size) = some 2 := by kernel_rfl
    cases h : Try.prog.info? 34 with
    | none => simp [h] at this
    | some j => simp [h] at this; exact ⟨j, rfl, by omega⟩
  obtain ⟨j, hj, hsz⟩ := hi
  exact run_eql_ptr_other w Try.underlying22 hj hsz hne' hb hx

theorem intSet_1 (b bx g c : Nat) (neg : Bool) (x : Int) (w : World) (hne : b ≠ bx) 
    (hb : w.heap[b]? = some (.cells #[.bool false, .slice none 0 0] 34))
    (hx : w.heap[bx]? = some (.cells #[.bool neg, .slice (some ⟨g, 0, none⟩) 1 c] 34))
    (hg : w.cell? ⟨g, 0, none⟩ = some (.int .u64 x)) :
    Calls Try.prog 15 #[.pointer (some ⟨b, 0, none⟩), .pointer (some ⟨bx, 0, none⟩)] w fun e w' => e = .returned (.pointer (some ⟨b, 0, none⟩)) ∧ 
      ∃ n, w' = (((w.setCell ⟨b, 1, none⟩ (.slice (some ⟨w.heap.size, 0, none⟩) 1 1)).setCell ⟨b, 0, none⟩ (.bool neg)).alloc (.cells #[.int .u64 x] 49)).drewN n := by
  have hlt : b < w.heap.size := heap_lt hb
  have hltx : bx < w.heap.size := heap_lt hx
  have hc0 := cell_of_heap (i := 0) hb
  have hc1 := cell_of_heap (i := 1) hb
  have hf0 := frozen_of_heap (i := 0) hb
  have hf1 := frozen_of_heap (i := 1) hb
  have hx0 := cell_of_heap (i := 0) hx
  have hx1 := cell_of_heap (i := 1) hx
  have hq := ptrs_neq w b bx hne _ _ hb hx
  simp at hc0 hc1 hx0 hx1
  clear hb hx
  go_enter Try.func15, Try.ntmps15
  go_wp2
  go_region_with (first | (go_at_call 27; refine (natSet_1 g c x _ ?_).mono ?_; (simp [go_sem, *]); rintro e w' ⟨rfl, rfl⟩))
  all_goals go_wp2
  all_goals (go_ret; refine ⟨rfl, ?_⟩)
  all_goals exact ⟨_, rfl⟩

theorem intSet_2 (b bx g c : Nat) (neg : Bool) (x y : Int) (w : World) (hne : b ≠ bx) 
    (hb : w.heap[b]? = some (.cells #[.bool false, .slice none 0 0] 34))
    (hx : w.heap[bx]? = some (.cells #[.bool neg, .slice (some ⟨g, 0, none⟩) 2 c] 34))
    (hg : w.cell? ⟨g, 0, none⟩ = some (.int .u64 x)) (hg1 : w.cell? ⟨g, 1, none⟩ = some (.int .u64 y)) :
    Calls Try.prog 15 #[.pointer (some ⟨b, 0, none⟩), .pointer (some ⟨bx, 0, none⟩)] w fun e w' => e = .returned (.pointer (some ⟨b, 0, none⟩)) ∧ 
      ∃ n, w' = (((w.setCell ⟨b, 1, none⟩ (.slice (some ⟨w.heap.size, 0, none⟩) 2 6)).setCell ⟨b, 0, none⟩ (.bool neg)).alloc (.cells #[.int .u64 x, .int .u64 y, .int .u64 0, .int .u64 0, .int .u64 0, .int .u64 0] 49)).drewN n := by
  have hlt : b < w.heap.size := heap_lt hb
  have hltx : bx < w.heap.size := heap_lt hx
  have hc0 := cell_of_heap (i := 0) hb
  have hc1 := cell_of_heap (i := 1) hb
  have hf0 := frozen_of_heap (i := 0) hb
  have hf1 := frozen_of_heap (i := 1) hb
  have hx0 := cell_of_heap (i := 0) hx
  have hx1 := cell_of_heap (i := 1) hx
  have hq := ptrs_neq w b bx hne _ _ hb hx
  simp at hc0 hc1 hx0 hx1
  clear hb hx
  go_enter Try.func15, Try.ntmps15
  go_wp2
  go_region_with (first | (go_at_call 27; refine (natSet_2 g c x y _ ?_ ?_).mono ?_; (simp [go_sem, *]); (simp [go_sem, *]); rintro e w' ⟨rfl, rfl⟩))
  all_goals go_wp2
  all_goals (go_ret; refine ⟨rfl, ?_⟩)
  all_goals exact ⟨_, rfl⟩

theorem isInt64_1 (b g c : Nat) (neg : Bool) (x : Int) (w : World) (h0 : 9223372036854775808 ≤ x) (h1 : x < 18446744073709551616) (hn : neg = true → 9223372036854775808 < x)
    (hx0 : w.cell? ⟨b, 0, none⟩ = some (.bool neg)) (hx1 : w.cell? ⟨b, 1, none⟩ = some (.slice (some ⟨g, 0, none⟩) 1 c))
    (hg : w.cell? ⟨g, 0, none⟩ = some (.int .u64 x)) :
    Calls Try.prog 13 #[.pointer (some ⟨b, 0, none⟩)] w fun e w' => e = .returned (.bool false) ∧ w' = w := by
  have hw : wrap64 x < 0 := by unfold wrap64; omega
  have hd : decide (0 ≤ wrap64 x) = false := by simp; omega
  cases neg with
  | false => 
    go_enter Try.func13, Try.ntmps13
    go_wp2_with (go_at_call 26; refine (low64_1 g c x _ hg).mono ?_; rintro e w' ⟨rfl, rfl⟩)
    go_ret
    exact ⟨rfl, rfl⟩
  | true =>
    have hn := hn rfl
    have he : (wrap64 x == wrap64 (-(wrap64 x))) = false := by simp; unfold wrap64; omega
    go_enter Try.func13, Try.ntmps13
    go_wp2_with (go_at_call 26; refine (low64_1 g c x _ hg).mono ?_; rintro e w' ⟨rfl, rfl⟩)
    go_ret
    exact ⟨rfl, rfl⟩

theorem isInt64_2 (b c : Nat) (a : Option Addr) (w : World) 
    (hx1 : w.cell? ⟨b, 1, none⟩ = some (.slice a 2 c)) :
    Calls Try.prog 13 #[.pointer (some ⟨b, 0, none⟩)] w fun e w' => e = .returned (.bool false) ∧ w' = w := by
  go_enter Try.func13, Try.ntmps13
  go_wp2
  go_ret
  exact ⟨rfl, rfl⟩

end Go.Proofs.Qxb6630415a
