/-
  Plain mathematics: the bits of what PutU32 lays. No Go in sight.
-/
import Derived.Test.Qxb6628773aPut
namespace Go.Proofs.Qxb6628773a
open Go.RowKit

theorem and1_all : ∀ c : Fin 256, bits .and .u8 ((c.val : Nat) : Int) 1 = ((c.val % 2 : Nat) : Int) := by decide +kernel
theorem and128_all : ∀ c : Fin 256, bits .and .u8 ((c.val : Nat) : Int) 128 = ((c.val / 128 * 128 : Nat) : Int) := by decide +kernel
theorem and127_all : ∀ c : Fin 256, bits .and .u8 ((c.val : Nat) : Int) 127 = ((c.val % 128 : Nat) : Int) := by decide +kernel
theorem and1 (x : Nat) (h : x < 256) : bits .and .u8 (x : Int) 1 = ((x % 2 : Nat) : Int) := and1_all ⟨x, h⟩
theorem and128 (x : Nat) (h : x < 256) : bits .and .u8 (x : Int) 128 = ((x / 128 * 128 : Nat) : Int) := and128_all ⟨x, h⟩
theorem and127 (x : Nat) (h : x < 256) : bits .and .u8 (x : Int) 127 = ((x % 128 : Nat) : Int) := and127_all ⟨x, h⟩

/-- the byte at place j, as a natural number -/
def encN (V n j : Nat) : Nat := if j < n - 1 then V / 128 ^ j % 128 + 128 else V / 128 ^ (n - 1) % 256
theorem enc_eq (V n j : Nat) : enc V n j = (encN V n j : Int) := by
  unfold enc encN
  split <;> rfl
theorem encN_lt (V n j : Nat) : encN V n j < 256 := by
  unfold encN
  split <;> omega
theorem encN_head {V m j : Nat} (h : j < m) : encN V (m + 1) j = V / 128 ^ j % 128 + 128 := by
  unfold encN
  rw [if_pos (by omega)]
theorem encN_last (V m : Nat) : encN V (m + 1) m = V / 128 ^ m % 256 := by
  unfold encN
  rw [if_neg (by omega)]
  rfl

theorem div_cast (a r : Nat) : ((a : Nat) : Int) / 2 ^ r = ((a / 2 ^ r : Nat) : Int) := by
  rw [Int.natCast_ediv, Int.natCast_pow]
  rfl

theorem pow7 (i : Nat) : 128 ^ i = 2 ^ (7 * i) := by
  rw [Nat.pow_mul]

theorem div_div (V i r : Nat) : V / 128 ^ i / 2 ^ r = V / 2 ^ (7 * i + r) := by
  rw [Nat.div_div_eq_div_mul, pow7, ← Nat.pow_add]

theorem head_bit (y r : Nat) (hr : r < 7) : (y % 128 + 128) / 2 ^ r % 2 = y / 2 ^ r % 2 := by
  have h : r = 0 ∨ r = 1 ∨ r = 2 ∨ r = 3 ∨ r = 4 ∨ r = 5 ∨ r = 6 := by omega
  rcases h with rfl | rfl | rfl | rfl | rfl | rfl | rfl <;> simp only [Nat.reducePow] <;> omega

theorem last_bit (y r : Nat) (hr : r < 8) : y % 256 / 2 ^ r % 2 = y / 2 ^ r % 2 := by
  have h : r = 0 ∨ r = 1 ∨ r = 2 ∨ r = 3 ∨ r = 4 ∨ r = 5 ∨ r = 6 ∨ r = 7 := by omega
  rcases h with rfl | rfl | rfl | rfl | rfl | rfl | rfl | rfl <;> simp only [Nat.reducePow] <;> omega

theorem shr_lt (c r : Nat) (h : c < 256) : c / 2 ^ r < 256 := Nat.lt_of_le_of_lt (Nat.div_le_self _ _) h

/-- payload bit j out of an earlier byte -/
theorem got_head (V m j : Nat) (h : j < 7 * m) : bits .and .u8 (enc V (m + 1) (j / 7) / 2 ^ (j - 7 * (j / 7))) 1 = ((V / 2 ^ j % 2 : Nat) : Int) := by
  rw [enc_eq, div_cast, and1 _ (shr_lt _ _ (encN_lt _ _ _)), encN_head (by omega), head_bit _ _ (by omega), div_div]
  rw [show 7 * (j / 7) + (j - 7 * (j / 7)) = j by omega]

/-- payload bit j out of the last byte -/
theorem got_last (V m j : Nat) (h : 7 * m ≤ j) (h8 : j < 7 * m + 8) : bits .and .u8 (enc V (m + 1) m / 2 ^ (j - 7 * m)) 1 = ((V / 2 ^ j % 2 : Nat) : Int) := by
  rw [enc_eq, div_cast, and1 _ (shr_lt _ _ (encN_lt _ _ _)), encN_last, last_bit _ _ (by omega), div_div]
  rw [show 7 * m + (j - 7 * m) = j by omega]

theorem want_low (V j : Nat) : bits .and .u8 ((V : Int) / 2 ^ j % 256) 1 = ((V / 2 ^ j % 2 : Nat) : Int) := by
  rw [div_cast, show (((V / 2 ^ j : Nat) : Int) % 256) = ((V / 2 ^ j % 256 : Nat) : Int) by omega, and1 _ (by omega)]
  rw [show V / 2 ^ j % 256 % 2 = V / 2 ^ j % 2 by omega]

theorem want_high (V j : Nat) (hV : V < 4294967296) (h : 32 ≤ j) : ((V / 2 ^ j % 2 : Nat) : Int) = 0 := by
  have : V / 2 ^ j = 0 := Nat.div_eq_of_lt (Nat.lt_of_lt_of_le hV (Nat.pow_le_pow_right (n := 2) (by omega) h))
  rw [this]
  rfl

theorem top_set (V m k : Nat) (h : k < m) : (bits .and .u8 (enc V (m + 1) k) 128 == 0) = false := by
  rw [enc_eq, and128 _ (encN_lt _ _ _), encN_head h, beq_eq_false_iff_ne]
  omega

theorem ne_self (x y : Int) (h : x = y) : (x != y) = false := by rw [h]; simp
end Go.Proofs.Qxb6628773a
