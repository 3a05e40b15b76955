/-
  The plain laws behind FnCompareOrdersSignedMagnitudes: numbers alone.
-/
namespace Go.Proofs.Qxb6003719a.Cmp

/-- The first n words of X, zeros above. -/
def pad (n : Nat) (X : Nat → Nat) : Nat → Nat := fun i => if i < n then X i else 0

/-- Are the first k words all zero? -/
def zeroB (P : Nat → Nat) : Nat → Bool
  | 0 => true
  | k + 1 => zeroB P k && P k == 0
/-- The sign of the signed number. -/
def sgn (neg : Bool) (P : Nat → Nat) : Int := if zeroB P 12 = true then 0 else if neg = true then -1 else 1

/-- What the law's own loop holds after j rounds from the top word (11) down. -/
def magUp (P Q : Nat → Nat) : Nat → Int
  | 0 => 0
  | j + 1 => if magUp P Q j = 0 then (if P (11 - j) < Q (11 - j) then -1 else if Q (11 - j) < P (11 - j) then 1 else 0) else magUp P Q j

/-- How many of the first k words are left without the zeros at the top. -/
def trimmed (P : Nat → Nat) : Nat → Nat
  | 0 => 0
  | k + 1 => if P k = 0 then trimmed P k else k + 1

/-- The first k words compared from the top. -/
def cmpTop (P Q : Nat → Nat) : Nat → Int
  | 0 => 0
  | k + 1 => if P k = Q k then cmpTop P Q k else if P k < Q k then -1 else 1
def cmpW (P : Nat → Nat) (n : Nat) (Q : Nat → Nat) (m : Nat) : Int := if n = m then cmpTop P Q n else if n < m then -1 else 1

theorem trimmed_le (P : Nat → Nat) (k : Nat) : trimmed P k ≤ k := by
  induction k with
  | zero => exact Nat.le_refl _
  | succ k ih => simp only [trimmed]; split <;> omega

theorem trimmed_above (P : Nat → Nat) (k : Nat) : ∀ i, trimmed P k ≤ i → i < k → P i = 0 := by
  induction k with
  | zero => intro i _ h; omega
  | succ k ih =>
    intro i h1 h2
    simp only [trimmed] at h1
    split at h1
    · next h =>
      by_cases e : i = k
      · rw [e]; exact h
      · exact ih i h1 (by omega)
    · omega

theorem trimmed_top (P : Nat → Nat) (k : Nat) : 0 < trimmed P k → P (trimmed P k - 1) ≠ 0 := by
  induction k with
  | zero => intro h; simp [trimmed] at h
  | succ k ih =>
    simp only [trimmed]
    split
    · exact ih
    · next h => intro _; simpa using h

theorem trimmed_grow (P : Nat → Nat) (k j : Nat) (h : ∀ i, k ≤ i → i < k + j → P i = 0) : trimmed P (k + j) = trimmed P k := by
  induction j with
  | zero => rfl
  | succ j ih =>
    show trimmed P (k + j + 1) = _
    simp only [trimmed]
    rw [if_pos (h (k + j) (by omega) (by omega)), ih (fun i h1 h2 => h i h1 (by omega))]

theorem zero_iff (P : Nat → Nat) (k : Nat) : zeroB P k = true ↔ trimmed P k = 0 := by
  induction k with
  | zero => simp [zeroB, trimmed]
  | succ k ih =>
    simp only [zeroB, trimmed, Bool.and_eq_true, beq_iff_eq]
    by_cases h : P k = 0
    · simp [h, ih]
    · simp [h]

theorem zero_all (P : Nat → Nat) (k : Nat) (h : zeroB P k = true) : ∀ i, i < k → P i = 0 := fun i hi => trimmed_above P k i (by rw [(zero_iff P k).1 h]; omega) hi

theorem cmpW_trimmed (P Q : Nat → Nat) (k : Nat) : cmpW P (trimmed P k) Q (trimmed Q k) = cmpTop P Q k := by
  induction k with
  | zero => rfl
  | succ k ih =>
    have lp := trimmed_le P k
    have lq := trimmed_le Q k
    simp only [trimmed, cmpTop]
    by_cases hp : P k = 0
    · by_cases hq : Q k = 0
      · rw [if_pos hp, if_pos hq, ih, if_pos (by omega)]
      · rw [if_pos hp, if_neg hq, if_neg (by omega), if_pos (by omega), cmpW, if_neg (by omega), if_pos (by omega)]
    · by_cases hq : Q k = 0
      · rw [if_neg hp, if_pos hq, if_neg (by omega), if_neg (by omega), cmpW, if_neg (by omega), if_neg (by omega)]
      · rw [if_neg hp, if_neg hq, cmpW, if_pos rfl, cmpTop]

theorem cmpTop_self (P : Nat → Nat) (k : Nat) : cmpTop P P k = 0 := by
  induction k with
  | zero => rfl
  | succ k ih => rw [cmpTop, if_pos rfl, ih]

theorem cmpTop_neg (P Q : Nat → Nat) (k : Nat) : cmpTop Q P k = - cmpTop P Q k := by
  induction k with
  | zero => rfl
  | succ k ih =>
    simp only [cmpTop]
    by_cases h : P k = Q k
    · rw [if_pos h, if_pos h.symm, ih]
    · rw [if_neg h, if_neg (fun e => h e.symm)]
      by_cases h' : P k < Q k
      · rw [if_pos h', if_neg (by omega)]; rfl
      · rw [if_neg h', if_pos (by omega)]

theorem cmpTop_zero (P Q : Nat → Nat) (k : Nat) (hp : ∀ i, i < k → P i = 0) (hq : ∀ i, i < k → Q i = 0) : cmpTop P Q k = 0 := by
  induction k with
  | zero => rfl
  | succ k ih => rw [cmpTop, if_pos (by rw [hp k (by omega), hq k (by omega)]), ih (fun i h => hp i (by omega)) (fun i h => hq i (by omega))]

theorem magUp_go (P Q : Nat → Nat) (j : Nat) (h : magUp P Q j = 0) : magUp P Q (j + 1) = if P (11 - j) < Q (11 - j) then -1 else if Q (11 - j) < P (11 - j) then 1 else 0 := by
  rw [magUp, if_pos h]
theorem magUp_stay (P Q : Nat → Nat) (j : Nat) (h : ¬ magUp P Q j = 0) : magUp P Q (j + 1) = magUp P Q j := by
  rw [magUp, if_neg h]

/-- cmpTop with what stands above already told. -/
theorem mag_top (P Q : Nat → Nat) : ∀ j, j ≤ 12 → (magUp P Q j = 0 → cmpTop P Q 12 = cmpTop P Q (12 - j)) ∧ (¬ magUp P Q j = 0 → cmpTop P Q 12 = magUp P Q j) := by
  intro j
  induction j with
  | zero => intro _; exact ⟨fun _ => rfl, fun h => absurd rfl h⟩
  | succ j ih =>
    intro hj
    have ih := ih (by omega)
    by_cases h : magUp P Q j = 0
    · rw [ih.1 h, magUp_go P Q j h]
      obtain ⟨k, hk⟩ : ∃ k, 12 - j = k + 1 := ⟨11 - j, by omega⟩
      have e1 : 11 - j = k := by omega
      have e2 : 12 - (j + 1) = k := by omega
      rw [hk, e1, e2, cmpTop]
      by_cases h1 : P k = Q k
      · rw [if_pos h1, if_neg (by omega), if_neg (by omega)]; exact ⟨fun _ => rfl, fun h => absurd rfl h⟩
      · rw [if_neg h1]
        by_cases h2 : P k < Q k
        · simp only [if_pos h2]; exact ⟨fun h => absurd h (by decide), fun _ => trivial⟩
        · simp only [if_neg h2, if_pos (show Q k < P k by omega)]; exact ⟨fun h => absurd h (by decide), fun _ => trivial⟩
    · rw [magUp_stay P Q j h]; exact ⟨fun e => absurd e h, fun _ => ih.2 h⟩
theorem mag_eq (P Q : Nat → Nat) : magUp P Q 12 = cmpTop P Q 12 := by
  have h := mag_top P Q 12 (by omega)
  by_cases e : magUp P Q 12 = 0
  · rw [h.1 e, e]; rfl
  · exact (h.2 e).symm

theorem cmpTop_range (P Q : Nat → Nat) (k : Nat) : cmpTop P Q k = 0 ∨ cmpTop P Q k = 1 ∨ cmpTop P Q k = -1 := by
  induction k with
  | zero => exact .inl rfl
  | succ k ih =>
    simp only [cmpTop]
    split
    · exact ih
    · split
      · exact .inr (.inr rfl)
      · exact .inr (.inl rfl)
theorem magUp_range (P Q : Nat → Nat) (k : Nat) : magUp P Q k = 0 ∨ magUp P Q k = 1 ∨ magUp P Q k = -1 := by
  induction k with
  | zero => exact .inl rfl
  | succ k ih =>
    simp only [magUp]
    split
    · split
      · exact .inr (.inr rfl)
      · split
        · exact .inr (.inl rfl)
        · exact .inl rfl
    · exact ih

/-- What 'compare' answers. -/
def comp (xn : Bool) (P : Nat → Nat) (yn : Bool) (Q : Nat → Nat) : Int :=
  if sgn xn P = sgn yn Q then (if xn = true then cmpTop Q P 12 else cmpTop P Q 12) else if sgn xn P < sgn yn Q then -1 else 1
/-- What the law reckons. -/
def want (xn : Bool) (P : Nat → Nat) (yn : Bool) (Q : Nat → Nat) : Int :=
  if sgn yn Q < sgn xn P then 1 else if sgn xn P < sgn yn Q then -1 else sgn xn P * magUp P Q 12

theorem sgn_zero {n : Bool} {P : Nat → Nat} (h : sgn n P = 0) : ∀ i, i < 12 → P i = 0 := by
  unfold sgn at h
  split at h
  · next hz => exact zero_all P 12 hz
  · split at h <;> simp at h

theorem sgn_range (n : Bool) (P : Nat → Nat) : sgn n P = 0 ∨ (sgn n P = -1 ∧ n = true) ∨ (sgn n P = 1 ∧ n = false) := by
  unfold sgn
  split
  · exact .inl rfl
  · split
    · next h => exact .inr (.inl ⟨rfl, h⟩)
    · next h => exact .inr (.inr ⟨rfl, by simpa using h⟩)

theorem comp_want (xn : Bool) (P : Nat → Nat) (yn : Bool) (Q : Nat → Nat) : comp xn P yn Q = want xn P yn Q := by
  unfold comp want
  rw [mag_eq]
  by_cases h : sgn xn P = sgn yn Q
  · rw [if_pos h, if_neg (show ¬ sgn yn Q < sgn xn P by omega), if_neg (show ¬ sgn xn P < sgn yn Q by omega)]
    rcases sgn_range xn P with h0 | ⟨h1, h2⟩ | ⟨h1, h2⟩
    · have hp := sgn_zero h0
      have hq := sgn_zero (h ▸ h0 : sgn yn Q = 0)
      rw [cmpTop_zero P Q 12 hp hq, cmpTop_zero Q P 12 hq hp]
      simp
    · rw [h1, if_pos h2, cmpTop_neg P Q]; omega
    · rw [h1, if_neg (by simp [h2])]; omega
  · rw [if_neg h]
    by_cases h' : sgn xn P < sgn yn Q
    · rw [if_pos h', if_neg (show ¬ sgn yn Q < sgn xn P by omega), if_pos h']
    · rw [if_neg h', if_pos (show sgn yn Q < sgn xn P by omega)]

theorem want_neg (xn : Bool) (P : Nat → Nat) (yn : Bool) (Q : Nat → Nat) : comp yn Q xn P = - want xn P yn Q := by
  rw [comp_want]
  unfold want
  rw [mag_eq, mag_eq, cmpTop_neg P Q]
  by_cases h1 : sgn yn Q < sgn xn P
  · rw [if_neg (show ¬ sgn xn P < sgn yn Q by omega), if_pos h1, if_pos h1]
  · by_cases h2 : sgn xn P < sgn yn Q
    · rw [if_pos h2, if_neg h1, if_pos h2]; rfl
    · rw [if_neg h2, if_neg h1, if_neg h1, if_neg h2]
      have : sgn xn P = sgn yn Q := by omega
      rw [this, Int.mul_neg]

theorem comp_self (xn : Bool) (P : Nat → Nat) : comp xn P xn P = 0 := by
  unfold comp
  rw [if_pos rfl, cmpTop_self]
  split <;> rfl

theorem want_range (xn : Bool) (P : Nat → Nat) (yn : Bool) (Q : Nat → Nat) : -1 ≤ want xn P yn Q ∧ want xn P yn Q ≤ 1 := by
  unfold want
  rcases sgn_range xn P with h0 | ⟨h0, _⟩ | ⟨h0, _⟩ <;> rcases magUp_range P Q 12 with h1 | h1 | h1 <;> rw [h0, h1] <;> (repeat' split) <;> decide

theorem sgn_sq (n : Bool) (P : Nat → Nat) : sgn n P * sgn n P = if trimmed P 12 = 0 then 0 else 1 := by
  unfold sgn
  by_cases h : trimmed P 12 = 0
  · rw [if_pos h, if_pos ((zero_iff P 12).2 h)]; rfl
  · rw [if_neg h, if_neg (fun e => h ((zero_iff P 12).1 e))]
    split <;> rfl
end Go.Proofs.Qxb6003719a.Cmp
