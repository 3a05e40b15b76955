/-
  The plain laws behind truncatedPrefix and Prefix.exact: bytes as numbers below 256.
-/
import Derived.Laws.BitsAllLaws
namespace Go.Proofs.Qxb6003732a.Tr

/-- Y with its low u bits gone. -/
def clr (u Y : Nat) : Nat := Y / 2 ^ u * 2 ^ u

/-- Byte i of the first len bits of X. -/
def truncAt (len : Nat) (X : Nat → Nat) (i : Nat) : Nat := if len % 8 ≠ 0 ∧ i = len / 8 then clr (8 - len % 8) (X i) else X i

/-- Are the bits past the length in the last byte zero? -/
def exactB (len : Nat) (X : Nat → Nat) : Bool := decide (len % 8 = 0) || decide (X (len / 8) % 2 ^ (8 - len % 8) = 0)

theorem clr_le (u Y : Nat) : clr u Y ≤ Y := Nat.div_mul_le_self _ _
theorem clr_mod (u Y : Nat) : clr u Y % 2 ^ u = 0 := Nat.mul_mod_left _ _
theorem clr_eq_iff (u Y : Nat) : clr u Y = Y ↔ Y % 2 ^ u = 0 := by
  unfold clr
  have h := Nat.div_add_mod' Y (2 ^ u)
  constructor
  · intro e; omega
  · intro e; omega
theorem clr_clr (u v Y : Nat) (h : v ≤ u) : clr u (clr v Y) = clr u Y := by
  unfold clr
  obtain ⟨d, rfl⟩ : ∃ d, u = v + d := ⟨u - v, by omega⟩
  have e1 : Y / 2 ^ v * 2 ^ v / 2 ^ (v + d) = Y / 2 ^ (v + d) := by
    rw [Nat.pow_add, ← Nat.div_div_eq_div_mul, ← Nat.div_div_eq_div_mul, Nat.mul_div_cancel _ (Nat.two_pow_pos v)]
  rw [e1]
theorem clr_bit (u j Y : Nat) (h : u ≤ j) : clr u Y / 2 ^ j % 2 = Y / 2 ^ j % 2 := by
  unfold clr
  obtain ⟨d, rfl⟩ : ∃ d, j = u + d := ⟨j - u, by omega⟩
  have e1 : Y / 2 ^ u * 2 ^ u / 2 ^ (u + d) = Y / 2 ^ (u + d) := by
    rw [Nat.pow_add, ← Nat.div_div_eq_div_mul, ← Nat.div_div_eq_div_mul, Nat.mul_div_cancel _ (Nat.two_pow_pos u)]
  rw [e1]

theorem trunc_le (len : Nat) (X : Nat → Nat) (i : Nat) : truncAt len X i ≤ X i := by
  unfold truncAt; split
  · exact clr_le _ _
  · exact Nat.le_refl _

theorem exact_trunc (len : Nat) (X : Nat → Nat) : exactB len (truncAt len X) = true := by
  unfold exactB truncAt
  by_cases h : len % 8 = 0
  · simp [h]
  · rw [if_pos ⟨h, rfl⟩, clr_mod]; simp

/-- Truncation changes nothing just where the prefix is exact. -/
theorem exact_iff (len : Nat) (X : Nat → Nat) : exactB len X = true ↔ ∀ i, i < (len + 7) / 8 → truncAt len X i = X i := by
  unfold exactB
  rw [Bool.or_eq_true, decide_eq_true_iff, decide_eq_true_iff]
  constructor
  · intro h i hi
    unfold truncAt
    split
    · next e =>
      rcases h with h | h
      · exact absurd h e.1
      · rw [clr_eq_iff, e.2]; exact h
    · rfl
  · intro h
    by_cases e : len % 8 = 0
    · exact .inl e
    · right
      have := h (len / 8) (by omega)
      unfold truncAt at this
      rw [if_pos ⟨e, rfl⟩, clr_eq_iff] at this
      exact this

theorem trunc_again (len : Nat) (X : Nat → Nat) (i : Nat) : truncAt len (truncAt len X) i = truncAt len X i := by
  unfold truncAt
  by_cases h : len % 8 ≠ 0 ∧ i = len / 8
  · simp only [if_pos h]; exact clr_clr _ _ _ (Nat.le_refl _)
  · simp only [if_neg h]

theorem trunc_short (long short : Nat) (hs : short ≤ long) (X : Nat → Nat) (i : Nat) (hi : i < (short + 7) / 8) : truncAt short (truncAt long X) i = truncAt short X i := by
  unfold truncAt
  by_cases h : short % 8 ≠ 0 ∧ i = short / 8
  · rw [if_pos h, if_pos h]
    by_cases h2 : long % 8 ≠ 0 ∧ i = long / 8
    · rw [if_pos h2]; exact clr_clr _ _ _ (by omega)
    · rw [if_neg h2]
  · rw [if_neg h, if_neg h]
    by_cases h2 : long % 8 ≠ 0 ∧ i = long / 8
    · exfalso
      have : i < short / 8 ∨ (short % 8 ≠ 0 ∧ i = short / 8) := by omega
      rcases this with h3 | h3
      · omega
      · exact h h3
    · rw [if_neg h2]

theorem trunc_bit (long : Nat) (X : Nat → Nat) (i : Nat) (hi : i < long) : truncAt long X (i / 8) / 2 ^ (7 - i % 8) % 2 = X (i / 8) / 2 ^ (7 - i % 8) % 2 := by
  unfold truncAt
  split
  · next h => exact clr_bit _ _ _ (by omega)
  · rfl

/-! ### The walk's own spellings -/
theorem and_mask (u Y : Nat) (hu : u ≤ 8) (hY : Y < 256) : bits .and .u8 (Y : Int) (IntKind.u8.wrap (255 * 2 ^ u)) = ((clr u Y : Nat) : Int) := by
  have e1 : IntKind.u8.wrap (255 * 2 ^ u) = ((255 * 2 ^ u % 256 : Nat) : Int) := by rw [IntKind.wrap_u8']; simp
  have e2 : 255 * 2 ^ u % 256 = 2 ^ 8 - 2 ^ u := by
    have : ∀ u, u ≤ 8 → 255 * 2 ^ u % 256 = 2 ^ 8 - 2 ^ u := by decide
    exact this u hu
  rw [e1, u8_and_nat _ _ hY (Nat.mod_lt _ (by decide)), e2, nat_midmask 8 u Y hu, Nat.mod_eq_of_lt (by simpa using hY)]
  rfl
theorem and_mask' (u Y : Nat) (hu : u ≤ 8) (hY : Y < 256) : bits .and .u8 (Y : Int) (255 * 2 ^ u % 256) = ((clr u Y : Nat) : Int) := by
  rw [← IntKind.wrap_u8']; exact and_mask u Y hu hY
theorem and_low (u Y : Nat) (hu : u < 8) (hY : Y < 256) : bits .and .u8 (Y : Int) ((2 : Int) ^ u - 1) = ((Y % 2 ^ u : Nat) : Int) := by
  have hp : 0 < 2 ^ u := Nat.two_pow_pos u
  have hp2 : 2 ^ u < 256 := by
    have : ∀ u, u < 8 → 2 ^ u < 256 := by decide
    exact this u hu
  have e1 : (2 : Int) ^ u - 1 = ((2 ^ u - 1 : Nat) : Int) := by
    have : ((2 ^ u : Nat) : Int) = (2 : Int) ^ u := by simp
    omega
  rw [e1, u8_and_nat _ _ hY (by omega), Nat.and_two_pow_sub_one_eq_mod]
theorem bit_of (j Y : Nat) (hY : Y < 256) : bits .and .u8 ((Y : Int) / 2 ^ j) 1 = ((Y / 2 ^ j % 2 : Nat) : Int) := by
  have e0 : (Y : Int) / 2 ^ j = ((Y / 2 ^ j : Nat) : Int) := by simp
  have hle : Y / 2 ^ j ≤ Y := Nat.div_le_self _ _
  have h := u8_and_nat (Y / 2 ^ j) 1 (by omega) (by decide)
  rw [nat_mask1] at h
  rw [e0]
  exact h
end Go.Proofs.Qxb6003732a.Tr
