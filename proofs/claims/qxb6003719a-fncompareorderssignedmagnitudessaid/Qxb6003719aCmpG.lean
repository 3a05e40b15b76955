/-
  The callees' contracts in the words of the law: P, Q the padded words.
-/
import Derived.Test.Qxb6003719aCmpF
namespace Go.Proofs.Qxb6003719a
open Go.RowKit

theorem toWords0' (a : Option Addr) (n c b off : Nat) (X : Nat → Nat) (w : World) (hn : n ≤ 5000) (hv : View w a n b off X) :
    Calls Try.prog 8 #[.slice a n c, .int .i64 0] w fun e w' => e = .returned (.slice (some ⟨w.heap.size, 0, none⟩) n n) ∧ Below w.heap.size w w' ∧ w'.rowIs w.heap.size 26 n (wordRow X) := by
  refine (toWords_any a n c b off 0 X w hn (by omega) hv).mono ?_
  rintro e w' ⟨rfl, h1, h2, h3⟩
  exact ⟨rfl, h1, h3.congr fun i hi => by simp only [wordRow]; rw [if_pos (by omega)]⟩

theorem trim12 (n : Nat) (X : Nat → Nat) (hn : n ≤ 12) : Cmp.trimmed (Cmp.pad n X) n = Cmp.trimmed (Cmp.pad n X) 12 := by
  have h := Cmp.trimmed_grow (Cmp.pad n X) n (12 - n) (fun i h1 h2 => by unfold Cmp.pad; rw [if_neg (by omega)])
  rw [show n + (12 - n) = 12 by omega] at h
  exact h.symm

/-- The coef of a sign and twelve padded words. -/
def Coef (w : World) (b : Nat) (neg : Bool) (P : Nat → Nat) : Prop := IsCoef w b neg (Cmp.trimmed P 12) P

theorem coefOf' (neg : Bool) (b n : Nat) (X : Nat → Nat) (w : World) (hn : n ≤ 12) (hr : w.rowIs b 26 n (wordRow X)) :
    Calls Try.prog 14 #[.bool neg, .slice (some ⟨b, 0, none⟩) n n] w fun e w' => e = .returned (.pointer (some ⟨w.heap.size, 0, none⟩)) ∧ Below w.heap.size w w' ∧ Coef w' w.heap.size neg (Cmp.pad n X) := by
  refine (coefOf_any neg b n X w hn hr).mono ?_
  rintro e w' ⟨rfl, h1, h2⟩
  rw [trim12 n X hn] at h2
  exact ⟨rfl, h1, h2⟩

theorem Coef.later {w : World} {b : Nat} {neg : Bool} {P : Nat → Nat} (h : Coef w b neg P) {w' : World} {B : Nat} (hb : Below B w w') (hB : b < B) : Coef w' b neg P := IsCoef.later h hb hB
theorem Coef.lt {w : World} {b : Nat} {neg : Bool} {P : Nat → Nat} (h : Coef w b neg P) : b < w.heap.size := IsCoef.lt h

theorem sign' (b : Nat) (neg : Bool) (P : Nat → Nat) (w : World) (hc : Coef w b neg P) :
    Calls Try.prog 15 #[.pointer (some ⟨b, 0, none⟩)] w fun e w' => e = .returned (.int .i64 (Cmp.sgn neg P)) ∧ w = w' := by
  rw [← sgnN_eq]; exact zzSign_any b neg _ P w hc

theorem comp' (b d : Nat) (xn yn : Bool) (P Q : Nat → Nat) (w : World) (hx : Coef w b xn P) (hy : Coef w d yn Q) :
    Calls Try.prog 16 #[.pointer (some ⟨b, 0, none⟩), .pointer (some ⟨d, 0, none⟩)] w fun e w' => e = .returned (.int .i64 (Cmp.comp xn P yn Q)) ∧ ∃ q, w' = w.drewN q := by
  rw [← compN_eq]; exact zzCompare_any b d _ _ xn yn P Q w (Cmp.trimmed_le P 12) (Cmp.trimmed_le Q 12) hx hy

theorem compXY (b d : Nat) (xn yn : Bool) (P Q : Nat → Nat) (w : World) (hx : Coef w b xn P) (hy : Coef w d yn Q) :
    Calls Try.prog 16 #[.pointer (some ⟨b, 0, none⟩), .pointer (some ⟨d, 0, none⟩)] w fun e w' => e = .returned (.int .i64 (Cmp.want xn P yn Q)) ∧ ∃ q, w' = w.drewN q := by
  rw [← Cmp.comp_want]; exact comp' b d xn yn P Q w hx hy
theorem compYX (b d : Nat) (xn yn : Bool) (P Q : Nat → Nat) (w : World) (hx : Coef w b xn P) (hy : Coef w d yn Q) :
    Calls Try.prog 16 #[.pointer (some ⟨d, 0, none⟩), .pointer (some ⟨b, 0, none⟩)] w fun e w' => e = .returned (.int .i64 (-Cmp.want xn P yn Q)) ∧ ∃ q, w' = w.drewN q := by
  rw [← Cmp.want_neg]; exact comp' d b yn xn Q P w hy hx
theorem compXX (b : Nat) (xn : Bool) (P : Nat → Nat) (w : World) (hx : Coef w b xn P) :
    Calls Try.prog 16 #[.pointer (some ⟨b, 0, none⟩), .pointer (some ⟨b, 0, none⟩)] w fun e w' => e = .returned (.int .i64 0) ∧ ∃ q, w' = w.drewN q := by
  rw [← Cmp.comp_self xn P]; exact comp' b b xn xn P P w hx hx

/-- The big.Int that bigAbs gives. -/
def Big (w : World) (d r : Nat) (P : Nat → Nat) : Prop := IsBig w d r (Cmp.trimmed P 12) ∧ w.rowIs r 26 (Cmp.trimmed P 12) (wordRow P)
theorem Big.later {w : World} {d r : Nat} {P : Nat → Nat} (h : Big w d r P) {w' : World} {B : Nat} (hb : Below B w w') (hB : w.heap.size ≤ B) : Big w' d r P :=
  ⟨(hb.block d (Nat.lt_of_lt_of_le (lt_of_block h.1) hB)).trans h.1, h.2.of_block (hb.block r (Nat.lt_of_lt_of_le h.2.lt hB))⟩

theorem bigAbs' (b : Nat) (neg : Bool) (P : Nat → Nat) (w : World) (hc : Coef w b neg P) :
    Calls Try.prog 17 #[.pointer (some ⟨b, 0, none⟩)] w fun e w' => ∃ d r, e = .returned (.pointer (some ⟨d, 0, none⟩)) ∧ Below w.heap.size w w' ∧ Big w' d r P := by
  refine (zzBigAbs_any b neg _ P w (Cmp.trimmed_le P 12) hc (Cmp.trimmed_top P 12)).mono ?_
  rintro e w' ⟨d, r, rfl, h1, _, _, h2, h3⟩
  exact ⟨d, r, rfl, h1, h2, h3⟩

theorem bigSign' (d r : Nat) (neg : Bool) (P : Nat → Nat) (w : World) (h : Big w d r P) :
    Calls Try.prog 18 #[.pointer (some ⟨d, 0, none⟩)] w fun e w' => e = .returned (.int .i64 (Cmp.sgn neg P * Cmp.sgn neg P)) ∧ w = w' := by
  rw [Cmp.sgn_sq]; exact bigSign_any d r _ w h.1

theorem bits' (d r : Nat) (P : Nat → Nat) (w : World) (h : Big w d r P) :
    Calls Try.prog 20 #[.pointer (some ⟨d, 0, none⟩)] w fun e w' => e = .returned (.slice (some ⟨r, 0, none⟩) (Cmp.trimmed P 12) (Cmp.trimmed P 12)) ∧ w = w' := bigBits_any d r _ w h.1

theorem bitsAre' (d r : Nat) (P : Nat → Nat) (w : World) (h : Big w d r P) :
    Calls Try.prog 19 #[.slice (some ⟨r, 0, none⟩) (Cmp.trimmed P 12) (Cmp.trimmed P 12), .agg (arr12 P)] w fun e w' => e = .returned (.bool true) ∧ w' = w.alloc (.cells (arr12 P) 32) :=
  bitsAre_any r _ P w (Cmp.trimmed_le P 12) h.2 (Cmp.trimmed_top P 12) (fun i h1 h2 => Cmp.trimmed_above P 12 i h1 h2)

/-- What 'want' holds ahead of its last test. -/
def want1 (xn : Bool) (P : Nat → Nat) (yn : Bool) (Q : Nat → Nat) : Int := if Cmp.sgn xn P < Cmp.sgn yn Q then -1 else Cmp.sgn xn P * Cmp.magUp P Q 12
theorem want_of (xn : Bool) (P : Nat → Nat) (yn : Bool) (Q : Nat → Nat) : Cmp.want xn P yn Q = if Cmp.sgn yn Q < Cmp.sgn xn P then 1 else want1 xn P yn Q := rfl

theorem sgn_bd (n : Bool) (P : Nat → Nat) : -1 ≤ Cmp.sgn n P ∧ Cmp.sgn n P ≤ 1 := by
  rcases Cmp.sgn_range n P with h | ⟨h, _⟩ | ⟨h, _⟩ <;> omega
theorem mul_bd {x y : Int} (hx : -1 ≤ x ∧ x ≤ 1) (hy : -1 ≤ y ∧ y ≤ 1) : wrap64 (x * y) = x * y := by
  have h1 : x = -1 ∨ x = 0 ∨ x = 1 := by omega
  have h2 : y = -1 ∨ y = 0 ∨ y = 1 := by omega
  rcases h1 with rfl | rfl | rfl <;> rcases h2 with rfl | rfl | rfl <;> (unfold wrap64; decide)
end Go.Proofs.Qxb6003719a
