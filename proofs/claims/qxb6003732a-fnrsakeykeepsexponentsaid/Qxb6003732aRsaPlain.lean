/-
  The plain laws behind FnRSAKeyKeepsExponent: bytes, words, and what fits an int64.
-/
import Derived.Laws.BitsAllLaws
namespace Go.Proofs.Qxb6003732a.Rsa

/-- The sum of the first c of g, each 256 times the last. -/
def lsum (g : Nat → Nat) : Nat → Nat
  | 0 => 0
  | c + 1 => lsum g c + g c * 256 ^ c

theorem lsum_lt (g : Nat → Nat) (hg : ∀ i, g i < 256) (c : Nat) : lsum g c < 256 ^ c := by
  induction c with
  | zero => simp [lsum]
  | succ c ih =>
    simp only [lsum, Nat.pow_succ]
    have := hg c
    have h2 : g c * 256 ^ c ≤ 255 * 256 ^ c := Nat.mul_le_mul_right _ (by omega)
    omega

theorem lsum_head (g : Nat → Nat) (c : Nat) : lsum g (c + 1) = g 0 + 256 * lsum (fun i => g (i + 1)) c := by
  induction c with
  | zero => simp [lsum]
  | succ c ih =>
    rw [lsum, ih]
    simp only [lsum, Nat.pow_succ, Nat.mul_add]
    have : g (c + 1) * (256 ^ c * 256) = 256 * (g (c + 1) * 256 ^ c) := by
      rw [← Nat.mul_assoc, Nat.mul_comm]
    omega

theorem lsum_congr {g h : Nat → Nat} {c : Nat} (e : ∀ i, i < c → g i = h i) : lsum g c = lsum h c := by
  induction c with
  | zero => rfl
  | succ c ih => rw [lsum, lsum, ih (fun i hi => e i (by omega)), e c (by omega)]

theorem lsum_more (g : Nat → Nat) (c d : Nat) (h : ∀ i, c ≤ i → i < c + d → g i = 0) : lsum g (c + d) = lsum g c := by
  induction d with
  | zero => rfl
  | succ d ih =>
    show lsum g (c + d + 1) = _
    rw [lsum, h (c + d) (by omega) (by omega), ih (fun i h1 h2 => h i h1 (by omega))]; omega

theorem lsum_zero {g : Nat → Nat} {c : Nat} (h : lsum g c = 0) : ∀ i, i < c → g i = 0 := by
  induction c with
  | zero => intro i hi; omega
  | succ c ih =>
    rw [lsum] at h
    intro i hi
    have hp : 0 < 256 ^ c := Nat.pow_pos (by decide)
    by_cases e : i = c
    · subst e
      have h2 : g i * 256 ^ i = 0 := by omega
      rcases Nat.mul_eq_zero.1 h2 with h3 | h3
      · exact h3
      · omega
    · exact ih (by omega) i (by omega)

/-- The bytes k .. k+c-1 of X read with the greatest first. -/
def bev (X : Nat → Nat) (k : Nat) : Nat → Nat
  | 0 => 0
  | c + 1 => bev X k c * 256 + X (k + c)

theorem bev_eq (X : Nat → Nat) (k c : Nat) : bev X k c = lsum (fun i => X (k + c - 1 - i)) c := by
  induction c with
  | zero => rfl
  | succ c ih =>
    rw [bev, ih, lsum_head]
    have e1 : X (k + (c + 1) - 1 - 0) = X (k + c) := by congr 1
    have e2 : lsum (fun i => X (k + (c + 1) - 1 - (i + 1))) c = lsum (fun i => X (k + c - 1 - i)) c := lsum_congr fun i _ => by
      show X _ = X _
      congr 1; omega
    rw [e1, e2]; omega

theorem bev_lt (X : Nat → Nat) (hX : ∀ i, X i < 256) (k c : Nat) : bev X k c < 256 ^ c := by
  rw [bev_eq]; exact lsum_lt _ (fun i => hX _) c

/-- The byte at distance i from the end. -/
def back (n : Nat) (X : Nat → Nat) (i : Nat) : Nat := if i < n then X (n - 1 - i) else 0
/-- Word j, the least first. -/
def word (n : Nat) (X : Nat → Nat) (j : Nat) : Nat := lsum (fun t => back n X (8 * j + t)) 8

theorem back_lt (n : Nat) (X : Nat → Nat) (hX : ∀ i, X i < 256) (i : Nat) : back n X i < 256 := by
  unfold back; split
  · exact hX _
  · decide
theorem word_lt (n : Nat) (X : Nat → Nat) (hX : ∀ i, X i < 256) (j : Nat) : word n X j < 18446744073709551616 :=
  lsum_lt (fun t => back n X (8 * j + t)) (fun _ => back_lt n X hX _) 8

/-- How many of the first k words are left without the zeros at the top. -/
def trimmed (P : Nat → Nat) : Nat → Nat
  | 0 => 0
  | k + 1 => if P k = 0 then trimmed P k else k + 1
theorem trimmed_le (P : Nat → Nat) (k : Nat) : trimmed P k ≤ k := by
  induction k with
  | zero => exact Nat.le_refl _
  | succ k ih => simp only [trimmed]; split <;> omega
theorem trimmed_above (P : Nat → Nat) (k : Nat) : ∀ i, trimmed P k ≤ i → i < k → P i = 0 := by
  induction k with
  | zero => intro i _ h; omega
  | succ k ih =>
    intro i h1 h2
    simp only [trimmed] at h1
    split at h1
    · next h =>
      by_cases e : i = k
      · rw [e]; exact h
      · exact ih i h1 (by omega)
    · omega
theorem trimmed_top (P : Nat → Nat) (k : Nat) : 0 < trimmed P k → P (trimmed P k - 1) ≠ 0 := by
  induction k with
  | zero => intro h; simp [trimmed] at h
  | succ k ih =>
    simp only [trimmed]
    split
    · exact ih
    · next h => intro _; simpa using h

/-- The number of words. -/
def nw (n : Nat) : Nat := (n + 7) / 8
/-- How many words norm leaves. -/
def left (n : Nat) (X : Nat → Nat) : Nat := trimmed (word n X) (nw n)

/-- k leading zero bytes, the next one (if any) not zero. -/
def Lead (n : Nat) (X : Nat → Nat) (k : Nat) : Prop := k ≤ n ∧ (∀ i, i < k → X i = 0) ∧ (k < n → X k ≠ 0)

/-- At most eight bytes count: at most one word is left, and it is what the law reads. -/
theorem small {n : Nat} {X : Nat → Nat} {k : Nat} (h : Lead n X k) (h8 : n - k ≤ 8) : left n X ≤ 1 ∧ word n X 0 = bev X k (n - k) := by
  obtain ⟨hk, h0, _⟩ := h
  have hb : ∀ i, n - k ≤ i → back n X i = 0 := fun i hi => by
    unfold back; split
    · exact h0 _ (by omega)
    · rfl
  constructor
  · by_cases hl : left n X ≤ 1
    · exact hl
    · exfalso
      have ht := trimmed_top (word n X) (nw n) (by show 0 < left n X; omega)
      apply ht
      show word n X (left n X - 1) = 0
      unfold word
      have : lsum (fun t => back n X (8 * (left n X - 1) + t)) 8 = lsum (fun _ => 0) 8 := lsum_congr fun t _ => hb _ (by omega)
      rw [this]; rfl
  · have e : word n X 0 = lsum (back n X) 8 := lsum_congr fun t _ => by show back n X (8 * 0 + t) = back n X t; congr 1; omega
    have e2 : lsum (back n X) 8 = lsum (back n X) (n - k) := by
      have := lsum_more (back n X) (n - k) (8 - (n - k)) (fun i h1 _ => hb i h1)
      rwa [show n - k + (8 - (n - k)) = 8 by omega] at this
    rw [e, e2, bev_eq]
    refine lsum_congr fun i hi => ?_
    unfold back
    rw [if_pos (by omega)]
    congr 1; omega

/-- More than eight bytes count: two words or more are left. -/
theorem big {n : Nat} {X : Nat → Nat} {k : Nat} (h : Lead n X k) (h8 : 8 < n - k) : 2 ≤ left n X := by
  obtain ⟨hk, _, h1⟩ := h
  have hX := h1 (by omega)
  by_cases hl : 2 ≤ left n X
  · exact hl
  · exfalso
    apply hX
    have hi : back n X (n - 1 - k) = X k := by
      unfold back; rw [if_pos (by omega)]; congr 1; omega
    have hz : word n X ((n - 1 - k) / 8) = 0 := trimmed_above (word n X) (nw n) _ (by show left n X ≤ _; omega) (by unfold nw; omega)
    have := lsum_zero hz ((n - 1 - k) % 8) (by omega)
    rw [show 8 * ((n - 1 - k) / 8) + (n - 1 - k) % 8 = n - 1 - k by omega] at this
    rw [← hi]; exact this

/-! ### The walk's own spellings -/
theorem or_byte (c d y : Nat) (hc : c < 8) (hd : d < 256 ^ c) (hy : y < 256) : bits .or .u64 (d : Int) (IntKind.u64.wrap ((y : Int) * 2 ^ (8 * c))) = ((d + y * 256 ^ c : Nat) : Int) := by
  have hp : 256 ^ c = 2 ^ (8 * c) := by rw [Nat.pow_mul]
  have hm : y * 2 ^ (8 * c) < 18446744073709551616 := by
    have h1 : y * 2 ^ (8 * c) ≤ 255 * 2 ^ (8 * c) := Nat.mul_le_mul_right _ (by omega)
    have h2 : ∀ c, c < 8 → 255 * 2 ^ (8 * c) < 18446744073709551616 := by decide
    have := h2 c hc
    omega
  have hd2 : d < 18446744073709551616 := by
    have h2 : ∀ c, c < 8 → 256 ^ c < 18446744073709551616 := by decide
    have := h2 c hc
    omega
  have e1 : IntKind.u64.wrap ((y : Int) * 2 ^ (8 * c)) = ((y * 2 ^ (8 * c) : Nat) : Int) := by
    rw [IntKind.wrap_u64, show (y : Int) * 2 ^ (8 * c) = ((y * 2 ^ (8 * c) : Nat) : Int) by simp]; omega
  rw [e1, u64_or_nat _ _ hd2 hm, Nat.or_comm, nat_join (8 * c) _ _ (Nat.mul_mod_left _ _) (by rw [← hp]; exact hd), hp, Nat.add_comm]
theorem shl_byte (c d y : Nat) (hc : c < 8) (hd : d < 256 ^ c) (hy : y < 256) : bits .or .u64 (IntKind.u64.wrap ((d : Int) * 256)) (y : Int) = ((d * 256 + y : Nat) : Int) ∧ d * 256 + y < 256 ^ (c + 1) := by
  have h7 : ∀ c, c < 8 → 256 ^ c ≤ 72057594037927936 := by decide
  have hd2 : d < 72057594037927936 := by have := h7 c hc; omega
  have e1 : IntKind.u64.wrap ((d : Int) * 256) = ((d * 256 : Nat) : Int) := by rw [IntKind.wrap_u64]; omega
  refine ⟨?_, ?_⟩
  · rw [e1, u64_or_nat _ _ (by omega) (by omega), nat_join 8 (d * 256) y (by omega) (by omega)]
  · rw [Nat.pow_succ]; omega
end Go.Proofs.Qxb6003732a.Rsa
