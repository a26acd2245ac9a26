import Derived.Test.Qxb6630415aW6
import Derived.Test.Qxb6630415aW7
namespace Go.Proofs.Qxb6630415a
open Go.RowKit

/-- w' is w but for block b, for draws and for new blocks. -/
structure Only (b : Nat) (w w' : World) : Prop where
  os : w'.os = w.os
  tape : w'.tape = w.tape
  output : w'.output = w.output
  size : w.heap.size ≤ w'.heap.size
  block : ∀ k, k < w.heap.size → k ≠ b → w'.heap[k]? = w.heap[k]?

theorem Only.below {b B : Nat} {w w' : World} (h : Only b w w') (hB : B ≤ b) (hB' : B ≤ w.heap.size) : Below B w w' :=
  ⟨h.os, h.tape, h.output, h.size, fun k hk => h.block k (by omega) (by omega)⟩

theorem Only.of_sets (b : Nat) (w : World) (v1 v0 : Value) (o : Obj) (n : Nat) : Only b w ((((w.setCell ⟨b, 1, none⟩ v1).setCell ⟨b, 0, none⟩ v0).alloc o).drewN n) :=
  ⟨rfl, rfl, rfl, by simp, fun k hk hb => by
    have e1 := Below.heap_alloc ((w.setCell ⟨b, 1, none⟩ v1).setCell ⟨b, 0, none⟩ v0) o k (by simpa using hk)
    exact e1.trans ((Below.heap_setCell _ _ _ _ hb).trans (Below.heap_setCell _ _ _ _ hb))⟩
theorem Only.of_sets0 (b : Nat) (w : World) (v1 v0 : Value) : Only b w ((w.setCell ⟨b, 1, none⟩ v1).setCell ⟨b, 0, none⟩ v0) :=
  ⟨rfl, rfl, rfl, by simp, fun k hk hb => (Below.heap_setCell _ _ _ _ hb).trans (Below.heap_setCell _ _ _ _ hb)⟩

/-- The natural number m (at most 2^64) in the slice 'a n c'. -/
def NatIs (w : World) (a : Option Addr) (n c : Nat) (m : Int) : Prop :=
  (m = 0 ∧ a = none ∧ n = 0 ∧ c = 0) ∨
  (0 < m ∧ m < 18446744073709551616 ∧ n = 1 ∧ ∃ g, a = some ⟨g, 0, none⟩ ∧ w.cell? ⟨g, 0, none⟩ = some (.int .u64 m)) ∨
  (m = 18446744073709551616 ∧ n = 2 ∧ ∃ g, a = some ⟨g, 0, none⟩ ∧ w.cell? ⟨g, 0, none⟩ = some (.int .u64 0) ∧ w.cell? ⟨g, 1, none⟩ = some (.int .u64 1))

theorem NatIs.keep {w w' : World} {a : Option Addr} {n c : Nat} {m : Int} (h : NatIs w a n c m) (hk : ∀ p : Addr, a = some ⟨p.block, 0, none⟩ → w'.heap[p.block]? = w.heap[p.block]?) : NatIs w' a n c m := by
  rcases h with h | ⟨h1, h2, h3, g, rfl, hg⟩ | ⟨h1, h2, g, rfl, hg, hg'⟩
  · exact Or.inl h
  · exact Or.inr (Or.inl ⟨h1, h2, h3, g, rfl, (World.cell?_of_block (w := w) (hk ⟨g, 0, none⟩ rfl)).trans hg⟩)
  · exact Or.inr (Or.inr ⟨h1, h2, g, rfl, (World.cell?_of_block (w := w) (hk ⟨g, 0, none⟩ rfl)).trans hg, (World.cell?_of_block (w := w) (hk ⟨g, 1, none⟩ rfl)).trans hg'⟩)

/-- The big.Int at block b holds v. -/
def BI (w : World) (b : Nat) (v : Int) : Prop :=
  ∃ a n c, w.heap[b]? = some (.cells #[.bool (decide (v < 0)), .slice a n c] 34) ∧ NatIs w a n c v.natAbs ∧ ∀ g : Addr, a = some g → g.block ≠ b

theorem BI.lt {w : World} {b : Nat} {v : Int} (h : BI w b v) : b < w.heap.size := by
  obtain ⟨a, n, c, h, _⟩ := h; exact heap_lt h

theorem NatIs.lt {w : World} {a : Option Addr} {n c : Nat} {m : Int} (h : NatIs w a n c m) (g : Nat) (e : a = some ⟨g, 0, none⟩) : g < w.heap.size := by
  rcases h with ⟨_, h, _⟩ | ⟨h1, h2, h3, g', h, hg⟩ | ⟨h1, h2, g', h, hg, hg'⟩
  · rw [h] at e; cases e
  · rw [h] at e; cases e; exact World.block_lt_of_cell? w _ hg
  · rw [h] at e; cases e; exact World.block_lt_of_cell? w _ hg

/-- Old big.Ints are as they were in a later world. -/
theorem BI.later {w w' : World} {b : Nat} {v : Int} (h : BI w b v) (hb : Below w.heap.size w w') : BI w' b v := by
  obtain ⟨a, n, c, hh, hn, hg⟩ := h
  refine ⟨a, n, c, (hb.block b (heap_lt hh)).trans hh, hn.keep (fun p e => hb.block _ (hn.lt _ e)), hg⟩

theorem BI.draw {w : World} {b : Nat} {v : Int} (h : BI w b v) (n : Nat) : BI (w.drewN n) b v := h

/-- .. and where another block alone is written. -/
theorem BI.only {w w' : World} {b b2 : Nat} {v : Int} (h : BI w b v) (ho : Only b2 w w') (hne : b ≠ b2) (hne2 : ∀ a n c, w.heap[b]? = some (.cells #[.bool (decide (v < 0)), .slice a n c] 34) → ∀ g, a = some ⟨g, 0, none⟩ → g ≠ b2) : BI w' b v := by
  obtain ⟨a, n, c, hh, hn, hg⟩ := h
  refine ⟨a, n, c, (ho.block b (heap_lt hh) hne).trans hh, hn.keep (fun p e => ho.block _ (hn.lt _ e) (hne2 a n c hh _ e)), hg⟩

/-- What a store of both fields and a new row leave at block b. -/
theorem heap_sets (b : Nat) (w : World) (v1 v0 : Value) (o : Obj) (n : Nat) (c0 c1 : Value) (hb : w.heap[b]? = some (.cells #[c0, c1] 34)) :
    ((((w.setCell ⟨b, 1, none⟩ v1).setCell ⟨b, 0, none⟩ v0).alloc o).drewN n).heap[b]? = some (.cells #[v0, v1] 34) := by
  have hlt := heap_lt hb
  have e1 := Below.heap_alloc ((w.setCell ⟨b, 1, none⟩ v1).setCell ⟨b, 0, none⟩ v0) o b (by simpa using hlt)
  refine e1.trans ?_
  exact heap_setCell_same (i := 0) v0 (heap_setCell_same (i := 1) v1 hb)
theorem heap_sets0 (b : Nat) (w : World) (v1 v0 : Value) (c0 c1 : Value) (hb : w.heap[b]? = some (.cells #[c0, c1] 34)) :
    ((w.setCell ⟨b, 1, none⟩ v1).setCell ⟨b, 0, none⟩ v0).heap[b]? = some (.cells #[v0, v1] 34) :=
  heap_setCell_same (i := 0) v0 (heap_setCell_same (i := 1) v1 hb)
theorem heap_sets_new (b : Nat) (w : World) (v1 v0 : Value) (c : Array Value) (n i : Nat) :
    ((((w.setCell ⟨b, 1, none⟩ v1).setCell ⟨b, 0, none⟩ v0).alloc (.cells c 49)).drewN n).cell? ⟨w.heap.size, i, none⟩ = c[i]? := by
  rw [World.cell?_drewN]
  exact World.cell?_alloc_at _ _ _ _ (by simp)

/-- A zero big.Int. -/
def Zero (w : World) (b : Nat) : Prop := w.heap[b]? = some (.cells #[.bool false, .slice none 0 0] 34)

theorem setInt64_any (b : Nat) (x : Int) (h0 : -9223372036854775808 ≤ x) (h1 : x ≤ 9223372036854775807) (w : World) (hz : Zero w b) :
    Calls Try.prog 25 #[.pointer (some ⟨b, 0, none⟩), .int .i64 x] w fun e w' => e = .returned (.pointer (some ⟨b, 0, none⟩)) ∧ Only b w w' ∧ 
      BI w' b x ∧ (x ≠ 0 → w'.heap[b]? = some (.cells #[.bool (decide (x < 0)), .slice (some ⟨w.heap.size, 0, none⟩) 1 1] 34) ∧ w'.cell? ⟨w.heap.size, 0, none⟩ = some (.int .u64 x.natAbs)) := by
  have hc0 := cell_of_heap (i := 0) hz
  have hc1 := cell_of_heap (i := 1) hz
  have hf0 := frozen_of_heap (i := 0) hz
  have hf1 := frozen_of_heap (i := 1) hz
  have hlt := heap_lt hz
  simp at hc0 hc1
  by_cases hp : 0 < x
  · have hd : decide (x < 0) = false := by simp; omega
    have ha : (x.natAbs : Int) = x := by omega
    refine (setInt64_pos b x hp h1 w hc0 hc1 hf0 hf1).mono ?_
    rintro e w' ⟨rfl, rfl⟩
    have e1 := heap_sets b w (.slice (some ⟨w.heap.size, 0, none⟩) 1 1) (.bool false) (.cells #[.int .u64 x] 49) 0 _ _ hz
    have e2 := heap_sets_new b w (.slice (some ⟨w.heap.size, 0, none⟩) 1 1) (.bool false) #[.int .u64 x] 0 0
    refine ⟨rfl, Only.of_sets _ _ _ _ _ 0, ⟨_, _, _, by rw [hd]; exact e1, Or.inr (Or.inl ⟨by omega, by omega, rfl, _, rfl, by rw [ha]; exact e2⟩), ?_⟩, fun _ => ⟨by rw [hd]; exact e1, by rw [ha]; exact e2⟩⟩
    intro g hg; cases hg; show w.heap.size ≠ b; omega
  by_cases hn : x < 0
  · have hd : decide (x < 0) = true := by simp; omega
    have ha : (x.natAbs : Int) = -x := by omega
    refine (setInt64_neg b x hn h0 w hc0 hc1 hf0 hf1).mono ?_
    rintro e w' ⟨rfl, rfl⟩
    have e1 := heap_sets b w (.slice (some ⟨w.heap.size, 0, none⟩) 1 1) (.bool true) (.cells #[.int .u64 (-x)] 49) 0 _ _ hz
    have e2 := heap_sets_new b w (.slice (some ⟨w.heap.size, 0, none⟩) 1 1) (.bool true) #[.int .u64 (-x)] 0 0
    refine ⟨rfl, Only.of_sets _ _ _ _ _ 0, ⟨_, _, _, by rw [hd]; exact e1, Or.inr (Or.inl ⟨by omega, by omega, rfl, _, rfl, by rw [ha]; exact e2⟩), ?_⟩, fun _ => ⟨by rw [hd]; exact e1, by rw [ha]; exact e2⟩⟩
    intro g hg; cases hg; show w.heap.size ≠ b; omega
  · obtain rfl : x = 0 := by omega
    refine (setInt64_zero b w hc0 hc1 hf0 hf1).mono ?_
    rintro e w' ⟨rfl, rfl⟩
    refine ⟨rfl, Only.of_sets0 _ _ _ _, ⟨none, 0, 0, heap_sets0 b w _ _ _ _ hz, Or.inl ⟨rfl, rfl, rfl, rfl⟩, ?_⟩, fun h => absurd rfl h⟩
    intro g hg; cases hg

theorem intSet_any (b bx : Nat) (v : Int) (w : World) (hne : b ≠ bx) (hz : Zero w b) (hx : BI w bx v) (hv : v ≠ 0) :
    Calls Try.prog 15 #[.pointer (some ⟨b, 0, none⟩), .pointer (some ⟨bx, 0, none⟩)] w fun e w' => e = .returned (.pointer (some ⟨b, 0, none⟩)) ∧ Only b w w' ∧ BI w' b v := by
  obtain ⟨a, n, c, hh, hn, hg⟩ := hx
  have hlt := heap_lt hz
  rcases hn with ⟨h, _⟩ | ⟨h1, h2, rfl, g, rfl, hg0⟩ | ⟨h1, rfl, g, rfl, hg0, hg1⟩
  · omega
  · refine (intSet_1 b bx g c _ _ w hne hz hh hg0).mono ?_
    rintro e w' ⟨rfl, n, rfl⟩
    refine ⟨rfl, Only.of_sets _ _ _ _ _ n, ⟨_, _, _, heap_sets b w _ _ _ n _ _ hz, Or.inr (Or.inl ⟨h1, h2, rfl, _, rfl, heap_sets_new b w _ _ _ n 0⟩), ?_⟩⟩
    intro g hg; cases hg; show w.heap.size ≠ b; omega
  · refine (intSet_2 b bx g c _ _ _ w hne hz hh hg0 hg1).mono ?_
    rintro e w' ⟨rfl, n, rfl⟩
    refine ⟨rfl, Only.of_sets _ _ _ _ _ n, ⟨_, _, _, heap_sets b w _ _ _ n _ _ hz, Or.inr (Or.inr ⟨h1, rfl, _, rfl, heap_sets_new b w _ _ _ n 0, heap_sets_new b w _ _ _ n 1⟩), ?_⟩⟩
    intro g hg; cases hg; show w.heap.size ≠ b; omega

end Go.Proofs.Qxb6630415a
