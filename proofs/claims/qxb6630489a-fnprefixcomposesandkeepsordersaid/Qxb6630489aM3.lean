import Derived.Test.Qxb6630489aM2
import Derived.Laws.Strings
namespace Go.Proofs.Qxb6630489a

/-! ### The same on lists of bytes -/
def wl (l : List UInt8) : Int × Bool := zw l.length ((l.getD 0 0).toNat : Int) ((l.getD 1 0).toNat : Int) ((l.getD 2 0).toNat : Int) ((l.getD 3 0).toNat : Int)
def wn (l : List UInt8) : Nat := (wl l).1.toNat
theorem wl_bd (l : List UInt8) (h : l ≠ []) : 1 ≤ (wl l).1 ∧ (wl l).1 ≤ l.length ∧ (wl l).1 ≤ 4 := zw_bd _ _ _ _ _ (by have := List.length_pos_iff.mpr h; omega)
theorem wn_bd (l : List UInt8) (h : l ≠ []) : 1 ≤ wn l ∧ wn l ≤ l.length ∧ wn l ≤ 4 := by have := wl_bd l h; unfold wn; omega

def pl (l : List UInt8) : Nat → Nat
  | 0 => 0
  | n + 1 => if pl l n < l.length then pl l n + wn (l.drop (pl l n)) else pl l n

theorem get_list (s : ByteArray) (j : Nat) : s.get! j = s.data.toList.getD j 0 := by
  have e : s.get! j = s.data[j]! := rfl
  rw [e, getElem!_def, List.getD_eq_getElem?_getD, Array.getElem?_toList]
  cases s.data[j]? <;> rfl

theorem getD_drop (l : List UInt8) (k i : Nat) : (l.drop k).getD i 0 = l.getD (k + i) 0 := by simp [List.getD_eq_getElem?_getD, List.getElem?_drop]

theorem wv_list (s : ByteArray) (k : Nat) (h : k ≤ s.size) : wv s k = wl (s.data.toList.drop k) := by
  unfold wv wl bAt
  rw [getD_drop, getD_drop, getD_drop, getD_drop, get_list, get_list, get_list, get_list]
  have e : ((s.size : Int) - k) = ((s.data.toList.drop k).length : Int) := by
    rw [List.length_drop, Array.length_toList]; show _ = ((s.size - k : Nat) : Int); omega
  rw [e]; rfl

theorem wd_list (s : ByteArray) (k : Nat) (h : k ≤ s.size) : wd s k = wn (s.data.toList.drop k) := by
  unfold wd wn; rw [wv_list s k h]

theorem pos_pl (s : ByteArray) : ∀ n, pos s n = pl s.data.toList n
  | 0 => rfl
  | n + 1 => by
    have ih := pos_pl s n
    have hs : s.data.toList.length = s.size := by simp
    unfold pos pl
    rw [← ih, hs, wd_list s _ (pos_le s n)]

theorem pl_nil : ∀ n, pl [] n = 0
  | 0 => rfl
  | n + 1 => by unfold pl; rw [pl_nil n]; simp

theorem pl_front (l : List UInt8) (h : l ≠ []) : ∀ n, pl l (n + 1) = wn l + pl (l.drop (wn l)) n
  | 0 => by
    have := List.length_pos_iff.mpr h
    simp [pl, this]
  | n + 1 => by
    have ih := pl_front l h n
    have hw := wn_bd l h
    rw [show pl l (n + 1 + 1) = if pl l (n + 1) < l.length then pl l (n + 1) + wn (l.drop (pl l (n + 1))) else pl l (n + 1) from rfl, ih]
    rw [show pl (l.drop (wn l)) (n + 1) = if pl (l.drop (wn l)) n < (l.drop (wn l)).length then pl (l.drop (wn l)) n + wn ((l.drop (wn l)).drop (pl (l.drop (wn l)) n)) else pl (l.drop (wn l)) n from rfl]
    rw [List.drop_drop, List.length_drop]
    by_cases hc : pl (l.drop (wn l)) n < l.length - wn l
    · rw [if_pos hc, if_pos (by omega)]; omega
    · rw [if_neg hc, if_neg (by omega)]

/-- The first n characters. -/
def preL : Nat → List UInt8 → List UInt8
  | 0, _ => []
  | n + 1, l => if l = [] then [] else l.take (wn l) ++ preL n (l.drop (wn l))
theorem preL_nil : ∀ n, preL n [] = []
  | 0 => rfl
  | _ + 1 => rfl
theorem preL_succ (n : Nat) (l : List UInt8) (h : l ≠ []) : preL (n + 1) l = l.take (wn l) ++ preL n (l.drop (wn l)) := by rw [preL, if_neg h]

theorem take_pl : ∀ (n : Nat) (l : List UInt8), l.take (pl l n) = preL n l
  | 0, l => rfl
  | n + 1, l => by
    by_cases h : l = []
    · subst h; rw [preL_nil]; simp
    · rw [pl_front l h, preL_succ n l h, ← take_pl n, List.take_add]

/-! ### A shorter text: its characters are the longer one's -/
theorem zw_shrink (n n' b0 b1 b2 b3 c1 c2 c3 : Int) (hn : n' ≤ n) (h : (zw n b0 b1 b2 b3).1 ≤ n') (h1 : 1 < n' → c1 = b1) (h2 : 2 < n' → c2 = b2) (h3 : 3 < n' → c3 = b3) :
    zw n' b0 c1 c2 c3 = zw n b0 b1 b2 b3 := by
  by_cases g1 : b0 < 128
  · rw [← zw_1 g1, ← zw_1 g1]
  by_cases g2 : 194 ≤ b0 ∧ b0 ≤ 223 ∧ 2 ≤ n ∧ 128 ≤ b1 ∧ b1 ≤ 191
  · rw [← zw_2 g2] at h ⊢
    have e1 := h1 (by simp only at h; omega)
    subst e1
    exact (zw_2 (by simp only at h; omega)).symm
  have g2' : ¬ (194 ≤ b0 ∧ b0 ≤ 223 ∧ 2 ≤ n' ∧ 128 ≤ c1 ∧ c1 ≤ 191) := fun q => g2 (by have := h1 (by omega); subst this; omega)
  by_cases g3 : 3 ≤ n ∧ 128 ≤ b2 ∧ b2 ≤ 191 ∧ ((b0 = 224 ∧ 160 ≤ b1 ∧ b1 ≤ 191) ∨ (225 ≤ b0 ∧ b0 ≤ 236 ∧ 128 ≤ b1 ∧ b1 ≤ 191) ∨ (238 ≤ b0 ∧ b0 ≤ 239 ∧ 128 ≤ b1 ∧ b1 ≤ 191) ∨ (b0 = 237 ∧ 128 ≤ b1 ∧ b1 ≤ 159))
  · rw [← zw_3 g3] at h ⊢
    simp only at h
    have e1 := h1 (by omega)
    have e2 := h2 (by omega)
    subst e1 e2
    exact (zw_3 ⟨by omega, g3.2⟩).symm
  have g3' : ¬ (3 ≤ n' ∧ 128 ≤ c2 ∧ c2 ≤ 191 ∧ ((b0 = 224 ∧ 160 ≤ c1 ∧ c1 ≤ 191) ∨ (225 ≤ b0 ∧ b0 ≤ 236 ∧ 128 ≤ c1 ∧ c1 ≤ 191) ∨ (238 ≤ b0 ∧ b0 ≤ 239 ∧ 128 ≤ c1 ∧ c1 ≤ 191) ∨ (b0 = 237 ∧ 128 ≤ c1 ∧ c1 ≤ 159))) := fun q => g3 (by
    have e1 := h1 (by omega); have e2 := h2 (by omega); subst e1 e2; exact ⟨by omega, q.2⟩)
  by_cases g4 : 4 ≤ n ∧ 128 ≤ b2 ∧ b2 ≤ 191 ∧ 128 ≤ b3 ∧ b3 ≤ 191 ∧ ((b0 = 240 ∧ 144 ≤ b1 ∧ b1 ≤ 191) ∨ (241 ≤ b0 ∧ b0 ≤ 243 ∧ 128 ≤ b1 ∧ b1 ≤ 191) ∨ (b0 = 244 ∧ 128 ≤ b1 ∧ b1 ≤ 143))
  · rw [← zw_4 g4] at h ⊢
    simp only at h
    have e1 := h1 (by omega)
    have e2 := h2 (by omega)
    have e3 := h3 (by omega)
    subst e1 e2 e3
    exact (zw_4 ⟨by omega, g4.2⟩).symm
  have g4' : ¬ (4 ≤ n' ∧ 128 ≤ c2 ∧ c2 ≤ 191 ∧ 128 ≤ c3 ∧ c3 ≤ 191 ∧ ((b0 = 240 ∧ 144 ≤ c1 ∧ c1 ≤ 191) ∨ (241 ≤ b0 ∧ b0 ≤ 243 ∧ 128 ≤ c1 ∧ c1 ≤ 191) ∨ (b0 = 244 ∧ 128 ≤ c1 ∧ c1 ≤ 143))) := fun q => g4 (by
    have e1 := h1 (by omega); have e2 := h2 (by omega); have e3 := h3 (by omega); subst e1 e2 e3; exact ⟨by omega, q.2⟩)
  rw [← zw_bad ⟨g1, g2, g3, g4⟩]
  exact (zw_bad ⟨g1, g2', g3', g4'⟩).symm

theorem wl_take (l : List UInt8) (q : Nat) (hq : wn l ≤ q) (hl : q ≤ l.length) (h : l ≠ []) : wl (l.take q) = wl l := by
  have hw := wl_bd l h
  have hwn : ((wn l : Nat) : Int) = (wl l).1 := by unfold wn; omega
  have hb := wn_bd l h
  have g : ∀ i, i < q → (l.take q).getD i 0 = l.getD i 0 := fun i hi => by simp [List.getD_eq_getElem?_getD, hi]
  unfold wl
  rw [g 0 (by omega), List.length_take, Nat.min_eq_left hl]
  refine zw_shrink _ _ _ _ _ _ _ _ _ (by omega) ?_ (fun h1 => by rw [g 1 (by omega)]) (fun h2 => by rw [g 2 (by omega)]) (fun h3 => by rw [g 3 (by omega)])
  show (wl l).1 ≤ _
  omega

theorem pl_le : ∀ (n : Nat) (l : List UInt8), pl l n ≤ l.length
  | 0, l => Nat.zero_le _
  | n + 1, l => by
    by_cases h : l = []
    · subst h; rw [pl_nil]; exact Nat.zero_le _
    · have := wn_bd l h; have ih := pl_le n (l.drop (wn l)); rw [List.length_drop] at ih
      rw [pl_front l h]; omega

theorem preL_preL : ∀ (n m : Nat) (l : List UInt8), preL m (preL n l) = preL (min m n) l
  | 0, m, l => by rw [Nat.min_zero]; exact preL_nil m
  | n + 1, 0, l => by rw [Nat.zero_min]; rfl
  | n + 1, m + 1, l => by
    rw [show min (m + 1) (n + 1) = min m n + 1 by omega]
    by_cases h : l = []
    · subst h; rw [preL_nil, preL_nil, preL_nil]
    · have hw := wn_bd l h
      have hq : wn l ≤ pl l (n + 1) := by rw [pl_front l h]; omega
      have e : wl (preL (n + 1) l) = wl l := by rw [← take_pl]; exact wl_take l _ hq (pl_le _ _) h
      have e' : wn (preL (n + 1) l) = wn l := by unfold wn; rw [e]
      have hc : (l.take (wn l)).length = wn l := by rw [List.length_take]; omega
      have hne : preL (n + 1) l ≠ [] := by
        intro h0; have : (preL (n + 1) l).length = 0 := by rw [h0]; rfl
        rw [preL_succ n l h, List.length_append, hc] at this; omega
      rw [preL_succ m _ hne, e', preL_succ (min m n) l h, preL_succ n l h, List.take_left' hc, List.drop_left' hc, preL_preL n m]

end Go.Proofs.Qxb6630489a
