import Derived.WalkKit
import Derived.Lib.DecodeN
namespace Go.Proofs.Qxb6630489a

/-- A byte of s (whatever past its end). -/
def bAt (s : ByteArray) (j : Nat) : Int := ((s.get! j).toNat : Int)
theorem bAt_of {s : ByteArray} {j : Nat} (h : j < s.size) : bAt s j = (s[j].toNat : Int) := by
  have e : s.get! j = s[j]'h := by
    simp [ByteArray.get!, getElem!_pos, h]
    rfl
  rw [bAt, e]
theorem bAt_bd (s : ByteArray) (j : Nat) : 0 ≤ bAt s j ∧ bAt s j ≤ 255 := by
  unfold bAt; have := (s.get! j).toNat_lt; omega

/-- The width that the law's own table gives: n bytes are left, the first four are b0 .. b3. -/
def zw (n b0 b1 b2 b3 : Int) : Int × Bool :=
  if b0 < 128 then (1, true)
  else if 194 ≤ b0 ∧ b0 ≤ 223 ∧ 2 ≤ n ∧ 128 ≤ b1 ∧ b1 ≤ 191 then (2, true)
  else if 3 ≤ n ∧ 128 ≤ b2 ∧ b2 ≤ 191 ∧ ((b0 = 224 ∧ 160 ≤ b1 ∧ b1 ≤ 191) ∨ (225 ≤ b0 ∧ b0 ≤ 236 ∧ 128 ≤ b1 ∧ b1 ≤ 191) ∨ (238 ≤ b0 ∧ b0 ≤ 239 ∧ 128 ≤ b1 ∧ b1 ≤ 191) ∨ (b0 = 237 ∧ 128 ≤ b1 ∧ b1 ≤ 159)) then (3, true)
  else if 4 ≤ n ∧ 128 ≤ b2 ∧ b2 ≤ 191 ∧ 128 ≤ b3 ∧ b3 ≤ 191 ∧ ((b0 = 240 ∧ 144 ≤ b1 ∧ b1 ≤ 191) ∨ (241 ≤ b0 ∧ b0 ≤ 243 ∧ 128 ≤ b1 ∧ b1 ≤ 191) ∨ (b0 = 244 ∧ 128 ≤ b1 ∧ b1 ≤ 143)) then (4, true)
  else (1, false)

theorem zw_1 {n b0 b1 b2 b3 : Int} (h : b0 < 128) : (1, true) = zw n b0 b1 b2 b3 := by rw [zw, if_pos h]
theorem zw_2 {n b0 b1 b2 b3 : Int} (h : 194 ≤ b0 ∧ b0 ≤ 223 ∧ 2 ≤ n ∧ 128 ≤ b1 ∧ b1 ≤ 191) : (2, true) = zw n b0 b1 b2 b3 := by rw [zw, if_neg (by omega), if_pos h]
theorem zw_3 {n b0 b1 b2 b3 : Int} (h : 3 ≤ n ∧ 128 ≤ b2 ∧ b2 ≤ 191 ∧ ((b0 = 224 ∧ 160 ≤ b1 ∧ b1 ≤ 191) ∨ (225 ≤ b0 ∧ b0 ≤ 236 ∧ 128 ≤ b1 ∧ b1 ≤ 191) ∨ (238 ≤ b0 ∧ b0 ≤ 239 ∧ 128 ≤ b1 ∧ b1 ≤ 191) ∨ (b0 = 237 ∧ 128 ≤ b1 ∧ b1 ≤ 159))) : (3, true) = zw n b0 b1 b2 b3 := by
  rw [zw, if_neg (by omega), if_neg (by omega), if_pos h]
theorem zw_4 {n b0 b1 b2 b3 : Int} (h : 4 ≤ n ∧ 128 ≤ b2 ∧ b2 ≤ 191 ∧ 128 ≤ b3 ∧ b3 ≤ 191 ∧ ((b0 = 240 ∧ 144 ≤ b1 ∧ b1 ≤ 191) ∨ (241 ≤ b0 ∧ b0 ≤ 243 ∧ 128 ≤ b1 ∧ b1 ≤ 191) ∨ (b0 = 244 ∧ 128 ≤ b1 ∧ b1 ≤ 143))) : (4, true) = zw n b0 b1 b2 b3 := by
  rw [zw, if_neg (by omega), if_neg (by omega), if_neg (by omega), if_pos h]
theorem zw_bad {n b0 b1 b2 b3 : Int} (h : ¬ b0 < 128 ∧ ¬ (194 ≤ b0 ∧ b0 ≤ 223 ∧ 2 ≤ n ∧ 128 ≤ b1 ∧ b1 ≤ 191) ∧
    ¬ (3 ≤ n ∧ 128 ≤ b2 ∧ b2 ≤ 191 ∧ ((b0 = 224 ∧ 160 ≤ b1 ∧ b1 ≤ 191) ∨ (225 ≤ b0 ∧ b0 ≤ 236 ∧ 128 ≤ b1 ∧ b1 ≤ 191) ∨ (238 ≤ b0 ∧ b0 ≤ 239 ∧ 128 ≤ b1 ∧ b1 ≤ 191) ∨ (b0 = 237 ∧ 128 ≤ b1 ∧ b1 ≤ 159))) ∧
    ¬ (4 ≤ n ∧ 128 ≤ b2 ∧ b2 ≤ 191 ∧ 128 ≤ b3 ∧ b3 ≤ 191 ∧ ((b0 = 240 ∧ 144 ≤ b1 ∧ b1 ≤ 191) ∨ (241 ≤ b0 ∧ b0 ≤ 243 ∧ 128 ≤ b1 ∧ b1 ≤ 191) ∨ (b0 = 244 ∧ 128 ≤ b1 ∧ b1 ≤ 143)))) : (1, false) = zw n b0 b1 b2 b3 := by
  rw [zw, if_neg h.1, if_neg h.2.1, if_neg h.2.2.1, if_neg h.2.2.2]

/-- Width and soundness of the character that begins at byte k. -/
def wv (s : ByteArray) (k : Nat) : Int × Bool := zw ((s.size : Int) - k) (bAt s k) (bAt s (k + 1)) (bAt s (k + 2)) (bAt s (k + 3))

set_option maxRecDepth 100000 in
set_option maxHeartbeats 4000000 in
theorem decN_zw (n b0 b1 b2 b3 : Nat) (_hn : 1 ≤ n) (h0 : b0 < 256) (h1 : b1 < 256) (h2 : b2 < 256) (h3 : b3 < 256) : ((Lib.decodeN n b0 b1 b2 b3).2 : Int) = (zw n b0 b1 b2 b3).1 := by
  unfold Lib.decodeN zw
  repeat' split
  all_goals first | rfl | (exfalso; omega)

theorem decode_wv (s : ByteArray) (k : Nat) (h : k < s.size) : ((Utf8.decode s k).2 : Int) = (wv s k).1 := by
  rw [Lib.decode_at, decN_zw _ _ _ _ _ (by omega) (s.get! k).toNat_lt (s.get! (k + 1)).toNat_lt (s.get! (k + 2)).toNat_lt (s.get! (k + 3)).toNat_lt]
  have e : ((s.size - k : Nat) : Int) = (s.size : Int) - k := by omega
  rw [e]; rfl

theorem zw_bd (n b0 b1 b2 b3 : Int) (hn : 1 ≤ n) : 1 ≤ (zw n b0 b1 b2 b3).1 ∧ (zw n b0 b1 b2 b3).1 ≤ n ∧ (zw n b0 b1 b2 b3).1 ≤ 4 := by
  unfold zw
  repeat' split
  all_goals (simp only; omega)
theorem wv_bd (s : ByteArray) (k : Nat) (h : k < s.size) : 1 ≤ (wv s k).1 ∧ (wv s k).1 ≤ (s.size : Int) - k ∧ (wv s k).1 ≤ 4 := zw_bd _ _ _ _ _ (by omega)

end Go.Proofs.Qxb6630489a
