/-
  The plain laws behind FnShrWordsUndoesShiftUp: numbers alone. p = 2^s, q = 2^(64-s), p * q = 2^64.
-/
import Derived.Laws.BitsAllLaws
import Derived.Laws.Bits64
namespace Go.Proofs.Qxb6003719a.Shr

theorem pw (s : Nat) (hs : s < 64) : 2 ^ s * 2 ^ (64 - s) = 18446744073709551616 := by
  rw [← Nat.pow_add, show s + (64 - s) = 64 by omega]

/-- The carry that comes to word i. -/
def car (m : Nat) (X : Nat → Nat) : Nat → Nat
  | 0 => 0
  | i + 1 => (X i * m + car m X i) / 18446744073709551616
/-- Word i of X times m. -/
def mulAt (m : Nat) (X : Nat → Nat) (i : Nat) : Nat := (X i * m + car m X i) % 18446744073709551616
/-- Word i of X (of n words) shifted down by s. -/
def shrAt (s n : Nat) (X : Nat → Nat) (i : Nat) : Nat := X i / 2 ^ s + (if i + 1 < n then X (i + 1) * 2 ^ (64 - s) % 18446744073709551616 else 0)

theorem car_lt (m : Nat) (X : Nat → Nat) (hm : m < 18446744073709551616) (n : Nat) (hX : ∀ i, i < n → X i < 18446744073709551616) : ∀ i, i ≤ n → car m X i < 18446744073709551616 := by
  intro i
  induction i with
  | zero => intro _; simp [car]
  | succ i ih =>
    intro hi
    have h1 := ih (by omega)
    have h2 := hX i (by omega)
    simp only [car]
    have h3 : X i * m ≤ 18446744073709551615 * 18446744073709551615 := Nat.mul_le_mul (by omega) (by omega)
    omega

theorem mod_pq (x p q : Nat) : (x * q) % (p * q) = (x % p) * q := Nat.mul_mod_mul_right q x p

theorem step_div {p q : Nat} (hpq : p * q = 18446744073709551616) (hp : 0 < p) (x c : Nat) (hc : c < p) : (x * p + c) / 18446744073709551616 = x / q := by
  rw [← hpq, ← Nat.div_div_eq_div_mul]
  congr 1
  rw [Nat.add_comm, Nat.add_mul_div_right _ _ hp, Nat.div_eq_of_lt hc]
  omega

theorem step_mod {p q : Nat} (hpq : p * q = 18446744073709551616) (hp : 0 < p) (x c : Nat) (hc : c < p) : (x * p + c) % 18446744073709551616 = c + p * (x % q) := by
  rw [← hpq, Nat.mod_mul]
  have e1 : (x * p + c) % p = c := by rw [Nat.add_comm, Nat.add_mul_mod_self_right, Nat.mod_eq_of_lt hc]
  have e2 : (x * p + c) / p = x := by rw [Nat.add_comm, Nat.add_mul_div_right _ _ hp, Nat.div_eq_of_lt hc]; omega
  rw [e1, e2]

theorem car_pow {p q : Nat} (hpq : p * q = 18446744073709551616) (hp : 0 < p) (hq : 0 < q) (X : Nat → Nat) (n : Nat) (hX : ∀ i, i < n → X i < 18446744073709551616) : ∀ i, i ≤ n → car p X i < p ∧ (∀ j, i = j + 1 → car p X i = X j / q) := by
  intro i
  induction i with
  | zero => intro _; exact ⟨by simpa [car] using hp, fun j h => by omega⟩
  | succ i ih =>
    intro hi
    have e : car p X (i + 1) = X i / q := by simp only [car]; exact step_div hpq hp _ _ (ih (by omega)).1
    refine ⟨?_, fun j h => by obtain rfl : i = j := by omega
                              exact e⟩
    rw [e, Nat.div_lt_iff_lt_mul hq, hpq]
    exact hX i (by omega)

/-- Up by s into one word more, then down by s: as it was. -/
theorem up_down (s n : Nat) (hs : s < 64) (X : Nat → Nat) (hX : ∀ i, i < n → X i < 18446744073709551616) (h0 : ∀ i, n ≤ i → X i = 0) (i : Nat) (hi : i ≤ n) :
    shrAt s (n + 1) (mulAt (2 ^ s) X) i = X i := by
  have hpq := pw s hs
  have hp : 0 < 2 ^ s := Nat.two_pow_pos s
  have hq : 0 < 2 ^ (64 - s) := Nat.two_pow_pos _
  have hX' : ∀ i, i < n + 1 → X i < 18446744073709551616 := fun i _ => by
    by_cases h : i < n
    · exact hX i h
    · rw [h0 i (by omega)]; decide
  have c0 := car_pow hpq hp hq X (n + 1) hX' i (by omega)
  have c1 := car_pow hpq hp hq X (n + 1) hX' (i + 1) (by omega)
  have e0 : mulAt (2 ^ s) X i / 2 ^ s = X i % 2 ^ (64 - s) := by
    unfold mulAt
    rw [step_mod hpq hp _ _ c0.1, Nat.add_mul_div_left _ _ hp, Nat.div_eq_of_lt c0.1]
    omega
  unfold shrAt
  rw [e0]
  by_cases h : i + 1 < n + 1
  · rw [if_pos h]
    have e1 : mulAt (2 ^ s) X (i + 1) * 2 ^ (64 - s) % 18446744073709551616 = X i / 2 ^ (64 - s) * 2 ^ (64 - s) := by
      rw [← hpq, mod_pq]
      unfold mulAt
      rw [step_mod hpq hp _ _ c1.1, Nat.add_mul_mod_self_left, Nat.mod_eq_of_lt c1.1, c1.2 i rfl]
    rw [e1]
    have := Nat.mod_add_div (X i) (2 ^ (64 - s))
    rw [Nat.mul_comm (X i / 2 ^ (64 - s))]
    exact this
  · rw [if_neg h, h0 i (by omega)]
    simp

theorem up_carry (s n : Nat) (hs : s < 64) (X : Nat → Nat) (hX : ∀ i, i < n → X i < 18446744073709551616) (h0 : ∀ i, n ≤ i → X i = 0) : car (2 ^ s) X (n + 1) = 0 := by
  have hpq := pw s hs
  have hX' : ∀ i, i < n + 1 → X i < 18446744073709551616 := fun i _ => by
    by_cases h : i < n
    · exact hX i h
    · rw [h0 i (by omega)]; decide
  rw [(car_pow hpq (Nat.two_pow_pos s) (Nat.two_pow_pos _) X (n + 1) hX' (n + 1) (by omega)).2 n rfl, h0 n (by omega)]
  simp

theorem shr_parts (s n : Nat) (hs : s < 64) (X : Nat → Nat) (hX : ∀ i, i < n → X i < 18446744073709551616) (i : Nat) (hi : i < n) :
    shrAt s n X i % 2 ^ (64 - s) = X i / 2 ^ s ∧ shrAt s n X i / 2 ^ (64 - s) = (if i + 1 < n then X (i + 1) % 2 ^ s else 0) ∧ shrAt s n X i < 18446744073709551616 := by
  have hpq := pw s hs
  have hp : 0 < 2 ^ s := Nat.two_pow_pos s
  have hq : 0 < 2 ^ (64 - s) := Nat.two_pow_pos _
  have hlt : X i / 2 ^ s < 2 ^ (64 - s) := by
    rw [Nat.div_lt_iff_lt_mul hp, Nat.mul_comm, hpq]; exact hX i hi
  unfold shrAt
  by_cases h : i + 1 < n
  · rw [if_pos h, if_pos h, ← hpq, mod_pq]
    have hm := Nat.mod_lt (X (i + 1)) hp
    generalize X (i + 1) % 2 ^ s = c at *
    generalize X i / 2 ^ s = d at *
    refine ⟨by rw [Nat.add_mul_mod_self_right, Nat.mod_eq_of_lt hlt], by rw [Nat.add_mul_div_right _ _ hq, Nat.div_eq_of_lt hlt]; omega, ?_⟩
    have : (c + 1) * 2 ^ (64 - s) ≤ 2 ^ s * 2 ^ (64 - s) := Nat.mul_le_mul_right _ hm
    rw [Nat.add_mul] at this
    omega
  · rw [if_neg h, if_neg h]
    refine ⟨by rw [Nat.add_zero, Nat.mod_eq_of_lt hlt], by rw [Nat.add_zero, Nat.div_eq_of_lt hlt], ?_⟩
    have : 2 ^ (64 - s) ≤ 2 ^ s * 2 ^ (64 - s) := Nat.le_mul_of_pos_left _ hp
    omega

/-- Down by s, then up by s: the low s bits are gone. -/
theorem down_up (s n : Nat) (hs : s < 64) (X : Nat → Nat) (hX : ∀ i, i < n → X i < 18446744073709551616) (i : Nat) (hi : i < n) :
    mulAt (2 ^ s) (shrAt s n X) i = if i = 0 then X 0 / 2 ^ s * 2 ^ s else X i := by
  have hpq := pw s hs
  have hp : 0 < 2 ^ s := Nat.two_pow_pos s
  have hq : 0 < 2 ^ (64 - s) := Nat.two_pow_pos _
  have hS : ∀ j, j < n → shrAt s n X j < 18446744073709551616 := fun j hj => (shr_parts s n hs X hX j hj).2.2
  have c0 := car_pow hpq hp hq (shrAt s n X) n hS i (by omega)
  unfold mulAt
  rw [step_mod hpq hp _ _ c0.1, (shr_parts s n hs X hX i hi).1]
  cases i with
  | zero => simp [car, Nat.mul_comm]
  | succ j =>
    rw [c0.2 j rfl, (shr_parts s n hs X hX j (by omega)).2.1, if_pos hi]
    simp only [Nat.add_one_ne_zero, if_false]
    exact Nat.mod_add_div _ _

theorem down_carry (s n : Nat) (hs : s < 64) (X : Nat → Nat) (hX : ∀ i, i < n → X i < 18446744073709551616) : car (2 ^ s) (shrAt s n X) n = 0 := by
  have hpq := pw s hs
  have hS : ∀ j, j < n → shrAt s n X j < 18446744073709551616 := fun j hj => (shr_parts s n hs X hX j hj).2.2
  cases n with
  | zero => rfl
  | succ m =>
    rw [(car_pow hpq (Nat.two_pow_pos s) (Nat.two_pow_pos _) (shrAt s (m + 1) X) (m + 1) hS (m + 1) (by omega)).2 m rfl, (shr_parts s (m + 1) hs X hX m (by omega)).2.1, if_neg (by omega)]

/-! ### The walk's own spellings -/
theorem or_step (s y0 y1 : Nat) (hs : s < 64) (h0 : y0 < 18446744073709551616) :
    bits .or .u64 ((y0 : Int) / 2 ^ s) (IntKind.u64.wrap ((y1 : Int) * 2 ^ (64 - s))) = ((y0 / 2 ^ s + y1 * 2 ^ (64 - s) % 18446744073709551616 : Nat) : Int) := by
  have hpq := pw s hs
  have hp : 0 < 2 ^ s := Nat.two_pow_pos s
  have e0 : (y0 : Int) / 2 ^ s = ((y0 / 2 ^ s : Nat) : Int) := by simp
  have e1 : IntKind.u64.wrap ((y1 : Int) * 2 ^ (64 - s)) = ((y1 * 2 ^ (64 - s) % 18446744073709551616 : Nat) : Int) := by rw [IntKind.wrap_u64]; simp
  have hlt : y0 / 2 ^ s < 2 ^ (64 - s) := by rw [Nat.div_lt_iff_lt_mul hp, Nat.mul_comm, hpq]; exact h0
  have hle : y0 / 2 ^ s ≤ y0 := Nat.div_le_self _ _
  rw [e0, e1, u64_or_nat _ _ (by omega) (Nat.mod_lt _ (by decide)), Nat.or_comm]
  rw [nat_join (64 - s) _ _ (by rw [← hpq, mod_pq, Nat.mul_mod_left]) hlt, Nat.add_comm]
theorem or_zero (s y0 : Nat) (h0 : y0 < 18446744073709551616) : bits .or .u64 ((y0 : Int) / 2 ^ s) 0 = ((y0 / 2 ^ s : Nat) : Int) := by
  have hle : y0 / 2 ^ s ≤ y0 := Nat.div_le_self _ _
  have e0 : (y0 : Int) / 2 ^ s = ((y0 / 2 ^ s : Nat) : Int) := by simp
  have h := u64_or_nat (y0 / 2 ^ s) 0 (by omega) (by decide)
  rw [e0]
  simpa using h
theorem andNot_step (s y0 : Nat) (hs : s < 64) (h0 : y0 < 18446744073709551616) : bits .andNot .u64 (y0 : Int) ((2 ^ s - 1 : Nat) : Int) = ((y0 / 2 ^ s * 2 ^ s : Nat) : Int) := by
  have hpq := pw s hs
  have hp : 0 < 2 ^ s := Nat.two_pow_pos s
  have hle : 2 ^ s ≤ 2 ^ s * 2 ^ (64 - s) := Nat.le_mul_of_pos_right _ (Nat.two_pow_pos _)
  rw [u64_andNot_nat _ _ h0 (by omega)]
  have e : 18446744073709551615 - (2 ^ s - 1) = 2 ^ 64 - 2 ^ s := by
    have : (2 : Nat) ^ 64 = 18446744073709551616 := by decide
    omega
  rw [e, nat_midmask 64 s y0 (by omega), Nat.mod_eq_of_lt (by simpa using h0)]
end Go.Proofs.Qxb6003719a.Shr
