/-
  The plain laws behind FnReportValidConcat.
-/
namespace Go.Proofs.Qxb6003732a.Rep

/-- None of the first n severities is 'error' (1). -/
def valid (A : Nat → Int) : Nat → Bool
  | 0 => true
  | k + 1 => valid A k && A k != 1

theorem valid_iff (A : Nat → Int) (n : Nat) : valid A n = true ↔ ∀ i, i < n → A i ≠ 1 := by
  induction n with
  | zero => simp [valid]
  | succ k ih =>
    simp only [valid, Bool.and_eq_true, bne_iff_ne, ne_eq, ih]
    constructor
    · intro ⟨h1, h2⟩ i hi
      by_cases e : i = k
      · rw [e]; exact h2
      · exact h1 i (by omega)
    · intro h
      exact ⟨fun i hi => h i (by omega), h k (by omega)⟩

theorem valid_no {A : Nat → Int} {n i : Nat} (hi : i < n) (h : A i = 1) : valid A n = false := by
  cases hv : valid A n with
  | false => rfl
  | true => exact absurd h ((valid_iff A n).1 hv i hi)

/-- A, then B. -/
def cat (n : Nat) (A B : Nat → Int) : Nat → Int := fun i => if i < n then A i else B (i - n)
/-- The first n, the other way round. -/
def rev (n : Nat) (A : Nat → Int) : Nat → Int := fun i => A (n - 1 - i)
/-- A and one more at place n. -/
def snoc (n : Nat) (A : Nat → Int) (x : Int) : Nat → Int := fun i => if i < n then A i else x

theorem bool_ext {a b : Bool} (h : a = true ↔ b = true) : a = b := by cases a <;> cases b <;> simp_all

theorem valid_cat (n m : Nat) (A B : Nat → Int) : valid (cat n A B) (n + m) = (valid A n && valid B m) := by
  apply bool_ext
  rw [Bool.and_eq_true, valid_iff, valid_iff, valid_iff]
  constructor
  · intro h
    refine ⟨fun i hi => ?_, fun i hi => ?_⟩
    · have := h i (by omega); unfold cat at this; rwa [if_pos hi] at this
    · have := h (n + i) (by omega)
      unfold cat at this
      rw [if_neg (by omega), show n + i - n = i by omega] at this
      exact this
  · intro ⟨h1, h2⟩ i hi
    unfold cat
    split
    · next h => exact h1 i h
    · exact h2 _ (by omega)

theorem valid_rev (n : Nat) (A : Nat → Int) : valid (rev n A) n = valid A n := by
  apply bool_ext
  rw [valid_iff, valid_iff]
  constructor
  · intro h i hi
    have := h (n - 1 - i) (by omega)
    unfold rev at this
    rw [show n - 1 - (n - 1 - i) = i by omega] at this
    exact this
  · intro h i hi
    exact h _ (by omega)

theorem valid_warn (n : Nat) (A : Nat → Int) : valid (snoc n A 2) (n + 1) = valid A n := by
  apply bool_ext
  rw [valid_iff, valid_iff]
  constructor
  · intro h i hi
    have := h i (by omega)
    unfold snoc at this
    rwa [if_pos hi] at this
  · intro h i hi
    unfold snoc
    split
    · next e => exact h i e
    · decide

theorem valid_err (n : Nat) (A : Nat → Int) : valid (snoc n A 1) (n + 1) = false :=
  valid_no (i := n) (by omega) (by unfold snoc; rw [if_neg (by omega)])

theorem valid_one (x : Int) (h : x ≠ 1) : valid (fun _ => x) 1 = true := (valid_iff _ _).2 fun _ _ => h
end Go.Proofs.Qxb6003732a.Rep
