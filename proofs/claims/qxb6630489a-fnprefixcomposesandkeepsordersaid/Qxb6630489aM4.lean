import Derived.Test.Qxb6630489aM3
namespace Go.Proofs.Qxb6630489a

/-! ### '<=' on texts -/
def le (x y : List UInt8) : Bool := Op.bytesLess x y || x == y
theorem le_nil (y : List UInt8) : le [] y = true := by cases y <;> simp [le, Op.bytesLess]
theorem le_cons_nil (a : UInt8) (x : List UInt8) : le (a :: x) [] = false := by simp [le, Op.bytesLess]
theorem le_cons (a b : UInt8) (x y : List UInt8) : le (a :: x) (b :: y) = (decide (a < b) || (a == b && le x y)) := by
  unfold le
  rw [Op.bytesLess, List.cons_beq_cons]
  cases decide (a < b) <;> cases (a == b) <;> cases Op.bytesLess x y <;> cases (x == y) <;> rfl
theorem le_self : ∀ x : List UInt8, le x x = true
  | [] => le_nil _
  | a :: x => by rw [le_cons, le_self x]; simp
theorem le_total : ∀ x y : List UInt8, le x y = false → le y x = true
  | [], y, h => by rw [le_nil] at h; cases h
  | a :: x, [], _ => le_nil _
  | a :: x, b :: y, h => by
    rw [le_cons] at h ⊢
    simp only [Bool.or_eq_false_iff, decide_eq_false_iff_not, Bool.and_eq_false_iff] at h
    obtain ⟨h1, h2⟩ := h
    by_cases e : a = b
    · subst e
      rcases h2 with h2 | h2
      · simp at h2
      · rw [le_total x y h2]; simp
    · have : b < a := by
        rw [UInt8.lt_iff_toNat_lt] at h1 ⊢
        have : a.toNat ≠ b.toNat := fun q => e (UInt8.toNat_inj.mp q)
        omega
      simp [this]
theorem le_app (x y : List UInt8) : ∀ c : List UInt8, le (c ++ x) (c ++ y) = le x y
  | [] => rfl
  | a :: c => by rw [List.cons_append, List.cons_append, le_cons, le_app x y c]; simp

/-- Two characters that part within both. -/
def Apart (c d : List UInt8) : Prop := ∃ (p : List UInt8) (u v : UInt8) (c' d' : List UInt8), c = p ++ u :: c' ∧ d = p ++ v :: d' ∧ u ≠ v
theorem le_apart {c d : List UInt8} (h : Apart c d) (x y x' y' : List UInt8) : le (c ++ x) (d ++ y) = le (c ++ x') (d ++ y') := by
  obtain ⟨p, u, v, c', d', rfl, rfl, hne⟩ := h
  simp only [List.append_assoc, List.cons_append]
  rw [le_app, le_app, le_cons, le_cons]
  have : (u == v) = false := by simpa using hne
  simp [this]
theorem same_or_apart : ∀ c d : List UInt8, c.length = d.length → c = d ∨ Apart c d
  | [], [], _ => Or.inl rfl
  | [], _ :: _, h => by simp at h
  | _ :: _, [], h => by simp at h
  | a :: c, b :: d, h => by
    by_cases e : a = b
    · subst e
      rcases same_or_apart c d (by simpa using h) with rfl | ⟨p, u, v, c', d', rfl, rfl, hne⟩
      · exact Or.inl rfl
      · exact Or.inr ⟨a :: p, u, v, c', d', rfl, rfl, hne⟩
    · exact Or.inr ⟨[], a, b, c, d, rfl, rfl, e⟩

/-- A sound character's width is told by its first byte. -/
theorem zw_first (n b0 b1 b2 b3 : Int) (h : (zw n b0 b1 b2 b3).2 = true) : (zw n b0 b1 b2 b3).1 = if b0 < 128 then 1 else if b0 < 224 then 2 else if b0 < 240 then 3 else 4 := by
  by_cases g1 : b0 < 128
  · rw [← zw_1 g1, if_pos g1]
  by_cases g2 : 194 ≤ b0 ∧ b0 ≤ 223 ∧ 2 ≤ n ∧ 128 ≤ b1 ∧ b1 ≤ 191
  · rw [← zw_2 g2, if_neg g1, if_pos (by omega)]
  by_cases g3 : 3 ≤ n ∧ 128 ≤ b2 ∧ b2 ≤ 191 ∧ ((b0 = 224 ∧ 160 ≤ b1 ∧ b1 ≤ 191) ∨ (225 ≤ b0 ∧ b0 ≤ 236 ∧ 128 ≤ b1 ∧ b1 ≤ 191) ∨ (238 ≤ b0 ∧ b0 ≤ 239 ∧ 128 ≤ b1 ∧ b1 ≤ 191) ∨ (b0 = 237 ∧ 128 ≤ b1 ∧ b1 ≤ 159))
  · rw [← zw_3 g3, if_neg g1, if_neg (by omega), if_pos (by omega)]
  by_cases g4 : 4 ≤ n ∧ 128 ≤ b2 ∧ b2 ≤ 191 ∧ 128 ≤ b3 ∧ b3 ≤ 191 ∧ ((b0 = 240 ∧ 144 ≤ b1 ∧ b1 ≤ 191) ∨ (241 ≤ b0 ∧ b0 ≤ 243 ∧ 128 ≤ b1 ∧ b1 ≤ 191) ∨ (b0 = 244 ∧ 128 ≤ b1 ∧ b1 ≤ 143))
  · rw [← zw_4 g4, if_neg g1, if_neg (by omega), if_neg (by omega)]
  · rw [← zw_bad ⟨g1, g2, g3, g4⟩] at h
    cases h

theorem chars_apart (l m : List UInt8) (hl : l ≠ []) (hm : m ≠ []) (vl : (wl l).2 = true) (vm : (wl m).2 = true) :
    l.take (wn l) = m.take (wn m) ∨ Apart (l.take (wn l)) (m.take (wn m)) := by
  have bl := wn_bd l hl
  have bm := wn_bd m hm
  obtain ⟨a, l', rfl⟩ := List.exists_cons_of_ne_nil hl
  obtain ⟨b, m', rfl⟩ := List.exists_cons_of_ne_nil hm
  by_cases e : a = b
  · subst e
    have e1 := zw_first _ _ _ _ _ vl
    have e2 := zw_first _ _ _ _ _ vm
    have e3 : (wl (a :: l')).1 = (wl (a :: m')).1 := e1.trans e2.symm
    have e4 : wn (a :: l') = wn (a :: m') := by unfold wn; rw [e3]
    exact same_or_apart _ _ (by rw [List.length_take, List.length_take]; omega)
  · right
    obtain ⟨p, hp⟩ : ∃ p, wn (a :: l') = p + 1 := ⟨wn (a :: l') - 1, by omega⟩
    obtain ⟨q, hq⟩ : ∃ q, wn (b :: m') = q + 1 := ⟨wn (b :: m') - 1, by omega⟩
    rw [hp, hq]
    exact ⟨[], a, b, l'.take p, m'.take q, rfl, rfl, e⟩

/-- Every character is sound. -/
def okL (l : List UInt8) : Prop := ∀ j, pl l j < l.length → (wl (l.drop (pl l j))).2 = true
theorem okL.head {l : List UInt8} (h : okL l) (hl : l ≠ []) : (wl l).2 = true := h 0 (List.length_pos_iff.mpr hl)
theorem okL.tail {l : List UInt8} (h : okL l) (hl : l ≠ []) : okL (l.drop (wn l)) := by
  intro j hj
  have hw := wn_bd l hl
  rw [List.length_drop] at hj
  have := h (j + 1) (by rw [pl_front l hl]; omega)
  rw [pl_front l hl, ← List.drop_drop] at this
  exact this

/-- The first n characters of sound texts sort as the texts do. -/
theorem preL_le : ∀ (n : Nat) (l m : List UInt8), okL l → okL m → le l m = true → le (preL n l) (preL n m) = true
  | 0, l, m, _, _, _ => le_nil _
  | n + 1, l, m, ol, om, h => by
    by_cases hl : l = []
    · subst hl; rw [preL_nil]; exact le_nil _
    by_cases hm : m = []
    · subst hm
      obtain ⟨a, l', rfl⟩ := List.exists_cons_of_ne_nil hl
      rw [le_cons_nil] at h; cases h
    rw [preL_succ n l hl, preL_succ n m hm]
    rw [← List.take_append_drop (wn l) l, ← List.take_append_drop (wn m) m] at h
    rcases chars_apart l m hl hm (ol.head hl) (om.head hm) with e | e
    · rw [← e] at h ⊢
      rw [le_app] at h ⊢
      exact preL_le n _ _ (ol.tail hl) (om.tail hm) h
    · rw [le_apart e _ _ (l.drop (wn l)) (m.drop (wn m))]
      exact h

/-! ### Back to strings -/
theorem toList_extract (s : ByteArray) (k : Nat) : (s.extract 0 k).data.toList = s.data.toList.take k := by simp
theorem ext_list {a b : ByteArray} (h : a.data.toList = b.data.toList) : a = b := by
  apply ByteArray.ext; exact Array.ext' h

/-- The text of the first n characters. -/
def T (s : ByteArray) (n : Int) : ByteArray := s.extract 0 (cut s n)
theorem T_neg (s : ByteArray) {n : Int} (h : n < 0) : T s n = s := by unfold T; rw [cut_neg s h]; simp
theorem T_nat (s : ByteArray) (n : Nat) : (T s (n : Int)).data.toList = preL n s.data.toList := by
  unfold T; rw [cut_nat, toList_extract, pos_pl, take_pl]
theorem T_size (s : ByteArray) (n : Int) : (T s n).size = cut s n := by
  unfold T; have := cut_le s n; simp; omega

theorem T_T (s : ByteArray) (n m : Nat) : T (T s (n : Int)) (m : Int) = T s ((min m n : Nat) : Int) := by
  apply ext_list; rw [T_nat, T_nat, T_nat, preL_preL]

/-- Every character of s is sound. -/
def Sound (s : ByteArray) : Prop := ∀ j, pos s j < s.size → (wv s (pos s j)).2 = true
theorem Sound.list {s : ByteArray} (h : Sound s) : okL s.data.toList := by
  intro j hj
  have hs : s.data.toList.length = s.size := by simp
  rw [hs, ← pos_pl] at hj
  have := h j hj
  rw [wv_list s _ (pos_le s j), pos_pl] at this
  exact this

theorem T_le (a b : ByteArray) (n : Int) (ha : Sound a) (hb : Sound b) (h : le a.data.toList b.data.toList = true) : le (T a n).data.toList (T b n).data.toList = true := by
  by_cases hn : n < 0
  · rw [T_neg a hn, T_neg b hn]; exact h
  · obtain ⟨m, rfl⟩ := Int.eq_ofNat_of_zero_le (show 0 ≤ n by omega)
    rw [T_nat, T_nat]; exact preL_le m _ _ ha.list hb.list h

end Go.Proofs.Qxb6630489a
