import Derived.Test.Qxb6630415aWd
import Derived.Deep.DeepCutAuto
namespace Go.Proofs.Qxb6630415a
open Go.RowKit
attribute [local go_sem ↓] Go.wp_at_zero Go.wp_at_succ
attribute [local go_sem] alloc_drewN setCell_drewN

theorem sign3_against (a d : Int) : sign3 a (a + d) = sign3 0 d := by
  unfold sign3; split <;> split <;> (try split) <;> (try split) <;> omega
theorem sign3_against' (a d : Int) : sign3 (a + d) a = sign3 d 0 := by
  unfold sign3; split <;> split <;> (try split) <;> (try split) <;> omega
theorem sign3_self (a : Int) : sign3 a a = 0 := by
  unfold sign3; split <;> (try split) <;> omega
theorem FenIs.apart {w w' : World} {f : Value} {v : Int} {d : Nat} (h : FenIs w f v) (ho : Only d w w') (u : Value) (hu : w.cell? ⟨d, 0, none⟩ = some u) (hk : ∀ x, u ≠ .int .u64 x) (hk2 : ∀ x, u ≠ .bool x) : FenIs w' f v := by
  rcases h with h | ⟨g, h1, h2, h3⟩
  · exact Or.inl h
  · exact Or.inr ⟨g, h1, h2.apart' ho u hu hk hk2, h3⟩

/-- Behind 'y := x.Add(fund.ZZFenOf(d))': x lies at block B, y where s6 points. -/
def Rel (w : World) (B : Nat) (a d : Int) (s6 : Value) (wx : World) : Prop :=
  ∃ yb s1 p1, s6 = .pointer (some ⟨yb, 0, none⟩) ∧ wx.cell? ⟨B, 0, none⟩ = some (.int .i64 a) ∧ wx.cell? ⟨B, 1, none⟩ = some (.pointer none) ∧
    wx.cell? ⟨yb, 0, none⟩ = some (.int .i64 s1) ∧ wx.cell? ⟨yb, 1, none⟩ = some (.pointer p1) ∧ FenIs wx (.agg #[.int .i64 s1, .pointer p1]) (a + d) ∧ Below w.heap.size w wx

theorem rel_new (w w3 : World) (B : Nat) (a d s1 : Int) (p1 : Option Addr) (t0 : w3.cell? ⟨B, 0, none⟩ = some (.int .i64 a)) (t1 : w3.cell? ⟨B, 1, none⟩ = some (.pointer none))
    (hF : FenIs w3 (.agg #[.int .i64 s1, .pointer p1]) (a + d)) (hb : Below w.heap.size w w3) :
    Rel w B a d (.pointer (some ⟨w3.heap.size, 0, none⟩)) (w3.alloc (.cells #[.int .i64 s1, .pointer p1] 24)) := by
  have hbe : Below w3.heap.size w3 (w3.alloc (.cells #[.int .i64 s1, .pointer p1] 24)) := (Below.refl _ _).alloc (Nat.le_refl _) _
  exact ⟨_, s1, p1, rfl, cell_later hbe t0, cell_later hbe t1, cell_of_heap (heap_new w3 _ _ rfl), cell_of_heap (heap_new w3 _ _ rfl), hF.later hbe, hb.alloc hb.size _⟩

theorem rel_set (w w3 : World) (B yb : Nat) (a d s1 : Int) (p1 : Option Addr) (t0 : w3.cell? ⟨B, 0, none⟩ = some (.int .i64 a)) (t1 : w3.cell? ⟨B, 1, none⟩ = some (.pointer none))
    (hF : FenIs w3 (.agg #[.int .i64 s1, .pointer p1]) (a + d)) (hb : Below w.heap.size w w3) (hy : w3.heap[yb]? = some (.cells #[.int .i64 0, .pointer none] 24)) (hne : B ≠ yb) (hN : w.heap.size ≤ yb) :
    Rel w B a d (.pointer (some ⟨yb, 0, none⟩)) ((w3.setCell ⟨yb, 0, none⟩ (.int .i64 s1)).setCell ⟨yb, 1, none⟩ (.pointer p1)) := by
  have ho := Only.of_sets01 yb w3 (.pointer p1) (.int .i64 s1)
  have hh := heap_setCell_same (i := 1) (.pointer p1) (heap_setCell_same (i := 0) (.int .i64 s1) hy)
  have lB : B < w3.heap.size := World.block_lt_of_cell? _ _ t0
  refine ⟨_, s1, p1, rfl, (ho.cell lB hne).trans t0, (ho.cell lB hne).trans t1, cell_of_heap hh, cell_of_heap hh, ?_, hb.trans (ho.below hN hb.size)⟩
  exact hF.apart ho (.int .i64 0) (cell_of_heap hy) (fun x e => by cases e) (fun x e => by cases e)

theorem law_added (a d : Int) (a0 : -9223372036854775808 ≤ a) (a1 : a ≤ 9223372036854775807) (d0 : -9223372036854775808 ≤ d) (d1 : d ≤ 9223372036854775807) (w : World) :
    Calls Try.prog 4 #[.int .i64 a, .int .i64 d] w fun e w' => e = .returned (.bool true) ∧ Below w.heap.size w w' := by
  have hx : ((w.alloc (.cells #[.int .i64 a, .pointer none] 24)).alloc (.cells #[.int .i64 a, .pointer none] 24)).heap[w.heap.size + 1]? = some (.cells #[.int .i64 a, .pointer none] 24) := heap_new _ _ _ (by simp)
  have hb2 : Below w.heap.size w ((w.alloc (.cells #[.int .i64 a, .pointer none] 24)).alloc (.cells #[.int .i64 a, .pointer none] 24)) := ((Below.refl _ _).alloc (Nat.le_refl _) _).alloc (by simp) _
  go_enter Try.func4, Try.ntmps4
  go_upto_region 2 with (first | (go_at_call 5; refine (fenOf_at _ _).mono ?_; rintro e w' ⟨rfl, rfl⟩))
  generalize ((w.alloc (.cells #[.int .i64 a, .pointer none] 24)).alloc (.cells #[.int .i64 a, .pointer none] 24)) = w2 at *
  have k0 := cell_of_heap (i := 0) hx
  have k1 := cell_of_heap (i := 1) hx
  have lk := heap_lt hx
  simp at k0 k1
  have lN : w.heap.size ≤ w.heap.size + 1 := by omega
  generalize hB : w.heap.size + 1 = B at *
  have lB : w.heap.size ≤ w2.heap.size := by omega
  have hB' : Hid (w.heap.size + 1 = B) := hB
  clear hx hB
  have lk1 : B < w2.heap.size + 1 := by omega
  have lk2 : B < w2.heap.size + 1 + 1 := by omega
  go_cut [6] (fun s6 wx => Rel w B a d s6 wx)
  case first =>
    go_region_held3 (fun w' => w'.cell? ⟨B, 0, none⟩ = some (.int .i64 a) ∧ w'.cell? ⟨B, 1, none⟩ = some (.pointer none)) (simp [go_sem, *])
      (first
        | (go_at_call 5; go_must (refine (fenOf_at _ _).mono ?_; rintro e w' ⟨rfl, rfl⟩))
        | (go_at_call 7; go_must (refine (fenAdd_any a d a0 a1 d0 d1 _).mono ?_; rintro e w3 ⟨⟨s1, p1, rfl, hF1⟩, hb3⟩; have t0 := cell_later (a := ⟨B, 0, none⟩) (v := .int .i64 a) hb3 (by simp [go_sem, *]); have t1 := cell_later (a := ⟨B, 1, none⟩) (v := .pointer none) hb3 (by simp [go_sem, *]); have lt3 := World.block_lt_of_cell? _ _ t0; simp only at lt3; obtain ⟨hcc, hff⟩ := bcell hb3)))
    · go_wp2_with fail
      go_meet
      exact rel_new w w3 B a d s1 p1 t0 t1 hF1 (((hb2.alloc lB _).drew).trans (hb3.mono (by simp; omega)))
    · go_wp2_with fail
      go_meet
      have hh := (hb3.block (w2.heap.size + 1) (by simp)).trans (heap_new (w2.alloc (.cells #[.int .i64 d, .pointer none] 24)) (.cells #[.int .i64 0, .pointer none] 24) (w2.heap.size + 1) (by simp))
      exact rel_set w w3 B _ a d s1 p1 t0 t1 hF1 ((((hb2.alloc lB _).alloc (by simp; omega) _).drew).trans (hb3.mono (by simp; omega))) hh (by omega) (by omega)
    · go_wp2_with fail
      go_meet
      have hh := (hb3.block (w2.heap.size) (by simp; omega)).trans ((Below.heap_alloc _ _ _ (by simp)).trans (heap_new w2 (.cells #[.int .i64 0, .pointer none] 24) w2.heap.size rfl))
      exact rel_set w w3 B _ a d s1 p1 t0 t1 hF1 ((((hb2.alloc lB _).alloc (by simp; omega) _).drew).trans (hb3.mono (by simp; omega))) hh (by omega) (by omega)
  case rest =>
  obtain ⟨yb, s1, p1, rfl, c0, c1, u0, u1, hF, hb⟩ := hcut
  clear hb2 k0 k1 lk lN lB hB' lk1 lk2
  have hA : FenIs wc (.agg #[.int .i64 a, .pointer none]) a := Or.inl ⟨rfl, a0, a1⟩
  go_wp2_with fail
  refine (fenCmp_any a s1 none p1 a (a + d) _ hA hF).mono ?_
  rintro e w4 ⟨rfl, hb4⟩
  have c0' := cell_later hb4 c0
  have c1' := cell_later hb4 c1
  have u0' := cell_later hb4 u0
  have u1' := cell_later hb4 u1
  have hA' := hA.later hb4
  have hF' := hF.later hb4
  have hb' := hb.trans (hb4.mono hb.size)
  rw [sign3_against]
  clear c0 c1 u0 u1 hA hF hb hb4
  go_wp2_with (first | (go_at_call 6; refine (sign3_any _ _ _).mono ?_; rintro e w' ⟨rfl, rfl⟩) | fail)
  refine (fenCmp_any s1 a p1 none (a + d) a _ hF' hA').mono ?_
  rintro e w5 ⟨rfl, hb5⟩
  have u0 := cell_later hb5 u0'
  have u1 := cell_later hb5 u1'
  have hF := hF'.later hb5
  have hb := hb'.trans (hb5.mono hb'.size)
  rw [sign3_against']
  clear c0' c1' u0' u1' hA' hF' hb' hb5
  go_wp2_with (first | (go_at_call 6; refine (sign3_any _ _ _).mono ?_; rintro e w' ⟨rfl, rfl⟩) | fail)
  refine (fenCmp_any s1 s1 p1 p1 (a + d) (a + d) _ hF hF).mono ?_
  rintro e w6 ⟨rfl, hb6⟩
  rw [sign3_self]
  go_wp2
  go_ret
  exact ⟨rfl, hb.trans (hb6.mono hb.size)⟩

end Go.Proofs.Qxb6630415a
