/-
  The walks of (*coef).trim, ZZCoefOfG2.
-/
import Derived.Test.Qxb6003719aCmpA
import Derived.Deep.LoopGhost
import Derived.Deep.QuietTactic
import Derived.BigQuiet
import Derived.WalkSmall
namespace Go.Proofs.Qxb6003719a
open Go.RowKit

/-- A coef held in words: its sign, how many words, the twelve words, no big.Int. -/
def coefArr (neg : Bool) (n : Nat) (P : Nat → Nat) : Array Value := #[.bool neg, .int .i64 ((n : Nat) : Int)] ++ arr12 P ++ #[.pointer none]
def IsCoef (w : World) (b : Nat) (neg : Bool) (n : Nat) (P : Nat → Nat) : Prop := w.heap[b]? = some (.cells (coefArr neg n P) 49 (0, 0))

section
variable {w : World} {b : Nat} {ng : Bool} {n : Nat} {P : Nat → Nat}
theorem IsCoef.neg (h : IsCoef w b ng n P) : w.cell? ⟨b, 0, none⟩ = some (.bool ng) := by rw [cell_of_row w b 0 _ _ _ h]; rfl
theorem IsCoef.len (h : IsCoef w b ng n P) : w.cell? ⟨b, 1, none⟩ = some (.int .i64 ((n : Nat) : Int)) := by rw [cell_of_row w b 1 _ _ _ h]; rfl
theorem IsCoef.large (h : IsCoef w b ng n P) : w.cell? ⟨b, 14, none⟩ = some (.pointer none) := by rw [cell_of_row w b 14 _ _ _ h]; rfl
theorem IsCoef.word (h : IsCoef w b ng n P) (i : Nat) (hi : i < 12) : w.cell? ⟨b, 2 + i, none⟩ = some (.int .u64 ((P i : Nat) : Int)) := by
  rw [cell_of_row w b (2 + i) _ _ _ h]
  have e : (coefArr ng n P)[2 + i]? = (arr12 P)[i]? := by
    unfold coefArr
    rw [Array.getElem?_append_left (by simp [size12]; omega), Array.getElem?_append_right (by simp)]
    simp
  rw [e, row12 P i hi]; rfl
theorem IsCoef.frozen (h : IsCoef w b ng n P) (i : Nat) : w.frozen? ⟨b, i, none⟩ = false := frozen_of_row w b i _ _ h
theorem IsCoef.lt (h : IsCoef w b ng n P) : b < w.heap.size := lt_of_block h
theorem IsCoef.setLen (h : IsCoef w b ng n P) (m : Nat) : IsCoef (w.setCell ⟨b, 1, none⟩ (.int .i64 ((m : Nat) : Int))) b ng m P := by
  unfold IsCoef at *
  rw [heap_setCell_same w b 1 _ _ _ h]; rfl
theorem IsCoef.later (h : IsCoef w b ng n P) {w' : World} {B : Nat} (hb : Below B w w') (hB : b < B) : IsCoef w' b ng n P := (hb.block b hB).trans h
end

set_option maxHeartbeats 400000 in
theorem trim_any (b : Nat) (neg : Bool) (n : Nat) (P : Nat → Nat) (w : World) (hn : n ≤ 12) (hc : IsCoef w b neg n P) :
    Calls Try.prog 24 #[.pointer (some ⟨b, 0, none⟩)] w fun e w' => e = .returned (.tuple #[]) ∧ Below b w w' ∧ IsCoef w' b neg (Cmp.trimmed P n) P := by
  go_enter Try.func24, Try.ntmps24
  go_wp2
  go_loopg [] n (fun k wr => k ≤ n ∧ Hid (IsCoef wr b neg k P) ∧ Hid (Cmp.trimmed P k = Cmp.trimmed P n) ∧ Below b w wr)
  case atStart => exact ⟨Nat.le_refl _, hc, rfl, Below.refl _ _⟩
  case round =>
    obtain ⟨hk, HC, HT, hb⟩ := hrel
    have f1 := HC.out.frozen 1
    cases gk with
    | zero =>
      have c1 : wr.cell? ⟨b, 1, none⟩ = some (.int .i64 0) := HC.out.len
      go_wp2
      go_quiet (fail)
      go_wp2
      go_end0
      have e0 : Cmp.trimmed P n = 0 := HT.out.symm
      exact ⟨rfl, below_drewN hb _, by rw [e0]; exact HC.out⟩
    | succ k =>
      have c1 : wr.cell? ⟨b, 1, none⟩ = some (.int .i64 ((k : Int) + 1)) := by have := HC.out.len; simpa using this
      have c2 := HC.out.word k (by omega)
      have hk1 : (0 : Int) < (k : Int) + 1 := by omega
      have hk2 : (k : Int) < 12 := by omega
      by_cases hz : P k = 0
      · have c2' : wr.cell? ⟨b, 2 + k, none⟩ = some (.int .u64 0) := by rw [c2, hz]; rfl
        clear c2
        go_wp2
        go_quiet (fail)
        go_wp2
        go_roundg k
        case measure => omega
        case rel =>
          refine ⟨by omega, HC.out.setLen k, ?_, (below_drewN hb _).setCell (Nat.le_refl _) _⟩
          have := HT.out
          rw [Cmp.trimmed, if_pos hz] at this
          exact this
      · have hz' : (((P k : Nat) : Int) == 0) = false := beq_eq_false_iff_ne.2 (by omega)
        go_wp2
        go_quiet (fail)
        go_wp2
        go_end0
        have e0 : Cmp.trimmed P n = k + 1 := by rw [← HT.out, Cmp.trimmed, if_neg hz]
        exact ⟨rfl, below_drewN hb _, by rw [e0]; exact HC.out⟩

end Go.Proofs.Qxb6003719a
