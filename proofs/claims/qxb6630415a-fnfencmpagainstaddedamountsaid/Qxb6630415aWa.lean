import Derived.Test.Qxb6630415aW9
namespace Go.Proofs.Qxb6630415a
open Go.RowKit

theorem Only.of_alloc {b : Nat} {w w' : World} {o : Obj} (h : Only b (w.alloc o) w') : Only b w w' :=
  ⟨h.os, h.tape, h.output, by have := h.size; simp at this; omega, fun k hk hb => (h.block k (by simp; omega) hb).trans (Below.heap_alloc _ _ _ hk)⟩
theorem Only.of_drew {b : Nat} {w w' : World} {n : Nat} (h : Only b (w.drewN n) w') : Only b w w' :=
  ⟨h.os, h.tape, h.output, h.size, h.block⟩
theorem Only.cell {b : Nat} {w w' : World} (h : Only b w w') {p : Addr} (hp : p.block < w.heap.size) (hb : p.block ≠ b) : w'.cell? p = w.cell? p :=
  World.cell?_of_block (w := w) (h.block _ hp hb)
theorem Zero.alloc {b : Nat} {w : World} (h : Zero w b) (o : Obj) : Zero (w.alloc o) b := (Below.heap_alloc _ _ _ (heap_lt h)).trans h
theorem BI.alloc {b : Nat} {v : Int} {w : World} (h : BI w b v) (o : Obj) : BI (w.alloc o) b v := h.later ((Below.refl _ _).alloc (Nat.le_refl _) o)

/-- What a Fen holds. -/
def FenIs (w : World) (f : Value) (v : Int) : Prop :=
  (f = .agg #[.int .i64 v, .pointer none] ∧ -9223372036854775808 ≤ v ∧ v ≤ 9223372036854775807) ∨
  ∃ g, f = .agg #[.int .i64 0, .pointer (some ⟨g, 0, none⟩)] ∧ BI w g v ∧ v ≠ 0

theorem FenIs.later {w w' : World} {f : Value} {v : Int} (h : FenIs w f v) (hb : Below w.heap.size w w') : FenIs w' f v := by
  rcases h with h | ⟨g, h1, h2, h3⟩
  · exact Or.inl h
  · exact Or.inr ⟨g, h1, h2.later hb, h3⟩

theorem bigInt_small (b : Nat) (x : Int) (h0 : -9223372036854775808 ≤ x) (h1 : x ≤ 9223372036854775807) (w : World) (hz : Zero w b) :
    Calls Try.prog 11 #[.agg #[.int .i64 x, .pointer none], .pointer (some ⟨b, 0, none⟩)] w fun e w' => e = .returned (.pointer (some ⟨b, 0, none⟩)) ∧ Only b w w' ∧ 
      BI w' b x ∧ (x ≠ 0 → ∃ gx, w.heap.size ≤ gx ∧ w'.heap[b]? = some (.cells #[.bool (decide (x < 0)), .slice (some ⟨gx, 0, none⟩) 1 1] 34) ∧ w'.cell? ⟨gx, 0, none⟩ = some (.int .u64 x.natAbs)) := by
  go_enter Try.func11, Try.ntmps11
  go_wp2_with (go_at_call 25; refine (setInt64_any b x h0 h1 _ (hz.alloc _)).mono ?_; rintro e w' ⟨rfl, ho, hbi, hx⟩)
  go_ret
  exact ⟨rfl, ho.of_alloc, hbi, fun h => ⟨_, by simp, hx h⟩⟩

theorem bigInt_wide (b g : Nat) (x : Int) (w : World) (hz : Zero w b) (hg : BI w g x) (hx : x ≠ 0) (hne : b ≠ g) :
    Calls Try.prog 11 #[.agg #[.int .i64 0, .pointer (some ⟨g, 0, none⟩)], .pointer (some ⟨b, 0, none⟩)] w fun e w' => e = .returned (.pointer (some ⟨b, 0, none⟩)) ∧ Only b w w' ∧ 
      BI w' b x := by
  go_enter Try.func11, Try.ntmps11
  go_wp2_with (go_at_call 15; refine (intSet_any b g x _ hne (hz.alloc _) (hg.alloc _) hx).mono ?_; rintro e w' ⟨rfl, ho, hbi⟩)
  go_ret
  exact ⟨rfl, ho.of_alloc, hbi⟩

theorem Only.of_sets01 (b : Nat) (w : World) (v1 v0 : Value) : Only b w ((w.setCell ⟨b, 0, none⟩ v0).setCell ⟨b, 1, none⟩ v1) :=
  ⟨rfl, rfl, rfl, by simp, fun k hk hb => (Below.heap_setCell _ _ _ _ hb).trans (Below.heap_setCell _ _ _ _ hb)⟩

theorem heap_new (w : World) (o : Obj) (n : Nat) (hn : n = w.heap.size) : (w.alloc o).heap[n]? = some o := by
  subst hn
  show (w.heap.push o)[w.heap.size]? = some o
  simp

theorem NatIs.word {w : World} {a : Option Addr} {n c : Nat} {m : Int} (h : NatIs w a n c m) (g : Nat) (e : a = some ⟨g, 0, none⟩) : ∃ x, w.cell? ⟨g, 0, none⟩ = some (.int .u64 x) := by
  rcases h with ⟨_, h, _⟩ | ⟨h1, h2, h3, g', h, hg⟩ | ⟨h1, h2, g', h, hg, hg'⟩
  · rw [h] at e; cases e
  · rw [h] at e; cases e; exact ⟨_, hg⟩
  · rw [h] at e; cases e; exact ⟨_, hg⟩

/-- A big.Int stays where a block is written whose first cell is no word. -/
theorem BI.apart {w w' : World} {b d : Nat} {v : Int} (h : BI w b v) (ho : Only d w w') (hne : b ≠ d) (u : Value) (hu : w.cell? ⟨d, 0, none⟩ = some u) (hk : ∀ x, u ≠ .int .u64 x) : BI w' b v := by
  obtain ⟨a, n, c, hh, hn, hg⟩ := h
  refine ⟨a, n, c, (ho.block b (heap_lt hh) hne).trans hh, hn.keep (fun p e => ho.block _ (hn.lt _ e) fun ed => ?_), hg⟩
  obtain ⟨x, hx⟩ := hn.word _ e
  rw [ed, hu] at hx
  cases hx
  exact hk x rfl

theorem fenOfBig_any (b : Nat) (v : Int) (w : World) (h : BI w b v) (ho : v < -9223372036854775808 ∨ 9223372036854775807 < v) :
    Calls Try.prog 9 #[.pointer (some ⟨b, 0, none⟩)] w fun e w' => (∃ g, e = .returned (.agg #[.int .i64 0, .pointer (some ⟨g, 0, none⟩)]) ∧ BI w' g v) ∧ Below w.heap.size w w' := by
  have hlt := h.lt
  have hz : Zero ((w.alloc (.cells #[.int .i64 0, .pointer none] 24)).alloc (.cells #[.bool false, .slice none 0 0] 34)) (w.heap.size + 1) := heap_new _ _ _ (by simp)
  have hB := h.alloc (.cells #[.int .i64 0, .pointer none] 24)
  have hB2 := hB.alloc (.cells #[.bool false, .slice none 0 0] 34)
  have hN : ((w.alloc (.cells #[.int .i64 0, .pointer none] 24)).alloc (.cells #[.bool false, .slice none 0 0] 34)).heap[w.heap.size]? = some (.cells #[.int .i64 0, .pointer none] 24) :=
    (Below.heap_alloc _ _ _ (by simp)).trans (heap_new _ _ _ rfl)
  go_enter Try.func9, Try.ntmps9
  go_wp2_with (go_at_call 13; refine (isInt64_any b v _ hB ho).mono ?_; rintro e w' ⟨rfl, rfl⟩)
  refine (intSet_any (w.heap.size + 1) b v _ (by omega) hz hB2 (by omega)).mono ?_
  rintro e w' ⟨rfl, hO, hbi⟩
  have hN' := (hO.block w.heap.size (by simp; omega) (by omega)).trans hN
  have c0 := cell_of_heap (i := 0) hN'
  have c1 := cell_of_heap (i := 1) hN'
  have f0 := frozen_of_heap (i := 0) hN'
  have f1 := frozen_of_heap (i := 1) hN'
  simp at c0 c1
  clear hN' hN hz hB hB2
  go_wp2
  have hb1 : Below w.heap.size w w' := ((((Below.refl _ w).alloc (Nat.le_refl _) _).alloc (by simp) _).trans (hO.below (B := w.heap.size) (by omega) (by simp; omega)))
  refine bodyPost_ret (v := .agg #[.int .i64 0, .pointer (some ⟨w.heap.size + 1, 0, none⟩)]) (by simp [results, Try.results9, go_sem, c0, c1]) rfl ⟨⟨_, rfl, ?_⟩, ?_⟩
  · exact hbi.apart (Only.of_sets01 _ _ _ _) (by omega) _ c0 (fun x e => by cases e)
  · exact (hb1.setCell (Nat.le_refl _) _).setCell (Nat.le_refl _) _

end Go.Proofs.Qxb6630415a
