/-
  The walks of isZero, sign, cmpWords, cmpAbs, cmp.Compare, compare and the exported doors to them: they only read.
-/
import Derived.Test.Qxb6003719aCmpB
import Derived.LaidEql
namespace Go.Proofs.Qxb6003719a
open Go.RowKit

theorem isZero_any (b : Nat) (neg : Bool) (n : Nat) (P : Nat → Nat) (w : World) (hc : IsCoef w b neg n P) :
    Calls Try.prog 36 #[.pointer (some ⟨b, 0, none⟩)] w fun e w' => e = .returned (.bool (decide (n = 0))) ∧ w = w' := by
  have c1 := hc.len
  have c3 := hc.large
  have e0 : (((n : Nat) : Int) == 0) = decide (n = 0) := by
    by_cases h : n = 0
    · subst h; rfl
    · rw [decide_eq_false h, beq_eq_false_iff_ne]; omega
  clear hc
  go_enter Try.func36, Try.ntmps36
  go_wp2
  go_ret
  exact ⟨rfl, rfl⟩

/-- The sign of a coef of n words. -/
def sgnN (neg : Bool) (n : Nat) : Int := if n = 0 then 0 else if neg = true then -1 else 1

theorem signC_any (b : Nat) (neg : Bool) (n : Nat) (P : Nat → Nat) (w : World) (hc : IsCoef w b neg n P) :
    Calls Try.prog 25 #[.pointer (some ⟨b, 0, none⟩)] w fun e w' => e = .returned (.int .i64 (sgnN neg n)) ∧ w = w' := by
  have c0 := hc.neg
  by_cases hn : n = 0
  · have hd : decide (n = 0) = true := decide_eq_true hn
    have HS : Hid (sgnN neg n = 0) := by unfold sgnN; exact if_pos hn
    go_enter Try.func25, Try.ntmps25
    go_wp2_with fail
    refine (isZero_any b neg n P _ hc).mono ?_
    rintro e w' ⟨rfl, rfl⟩
    rw [hd]
    go_wp2
    go_ret
    exact ⟨by rw [HS.out]; rfl, rfl⟩
  · have hd : decide (n = 0) = false := decide_eq_false hn
    cases neg with
    | true =>
      have HS : Hid (sgnN true n = -1) := by unfold sgnN; exact (if_neg hn).trans (if_pos rfl)
      go_enter Try.func25, Try.ntmps25
      go_wp2_with fail
      refine (isZero_any b true n P _ hc).mono ?_
      rintro e w' ⟨rfl, rfl⟩
      rw [hd]
      go_wp2
      go_ret
      exact ⟨by rw [HS.out]; rfl, rfl⟩
    | false =>
      have HS : Hid (sgnN false n = 1) := by unfold sgnN; exact (if_neg hn).trans (if_neg (by decide))
      go_enter Try.func25, Try.ntmps25
      go_wp2_with fail
      refine (isZero_any b false n P _ hc).mono ?_
      rintro e w' ⟨rfl, rfl⟩
      rw [hd]
      go_wp2
      go_ret
      exact ⟨by rw [HS.out]; rfl, rfl⟩

theorem zzSign_any (b : Nat) (neg : Bool) (n : Nat) (P : Nat → Nat) (w : World) (hc : IsCoef w b neg n P) :
    Calls Try.prog 15 #[.pointer (some ⟨b, 0, none⟩)] w fun e w' => e = .returned (.int .i64 (sgnN neg n)) ∧ w = w' := by
  go_enter Try.func15, Try.ntmps15
  go_wp2_with fail
  refine (signC_any b neg n P _ hc).mono ?_
  rintro e w' ⟨rfl, rfl⟩
  go_wp2
  go_ret
  exact ⟨rfl, rfl⟩

set_option maxHeartbeats 400000 in
theorem cmpWords_any (b d n m cn cm : Nat) (P Q : Nat → Nat) (w : World) (hn : n ≤ 12) (hm : m ≤ 12)
    (hp : ∀ i, i < n → w.cell? ⟨b, 2 + i, none⟩ = some (.int .u64 ((P i : Nat) : Int))) (hq : ∀ i, i < m → w.cell? ⟨d, 2 + i, none⟩ = some (.int .u64 ((Q i : Nat) : Int))) :
    Calls Try.prog 45 #[.slice (some ⟨b, 2, none⟩) n cn, .slice (some ⟨d, 2, none⟩) m cm] w fun e w' => e = .returned (.int .i64 (Cmp.cmpW P n Q m)) ∧ ∃ q, w' = w.drewN q := by
  by_cases hnm : n = m
  · subst hnm
    have HW : Hid (Cmp.cmpW P n Q n = Cmp.cmpTop P Q n) := by unfold Cmp.cmpW; exact if_pos rfl
    go_enter Try.func45, Try.ntmps45
    go_wp2
    go_loopw [5] (fun i wr => ∃ k q : Nat, k ≤ n ∧ i = .int .i64 ((k : Int) - 1) ∧ Hid (Cmp.cmpTop P Q k = Cmp.cmpTop P Q n) ∧ wr = w.drewN q) (fun i _ => (intOf i + 1).toNat)
    case atStart => exact ⟨n, 0, Nat.le_refl _, rfl, rfl, rfl⟩
    case round =>
      obtain ⟨k, q, hk, rfl, HT, rfl⟩ := hrel
      cases k with
      | zero =>
        go_wp2
        go_ret
        exact ⟨by rw [HW.out, ← HT.out]; rfl, q, rfl⟩
      | succ k =>
        have g0 := hp k (by omega)
        have g1 := hq k (by omega)
        have hk0 : (0 : Int) ≤ (k : Int) := by omega
        have hk1 : (k : Int) < (n : Int) := by omega
        rw [show (((k + 1 : Nat) : Int) - 1) = (k : Int) by omega]
        by_cases hz : P k = Q k
        · rw [hz] at g0
          go_wp2
          go_quiet (fail)
          go_wp2
          go_roundw
          case rel => exact ⟨k, _, by omega, rfl, by have := HT.out; rw [Cmp.cmpTop, if_pos hz] at this; exact this, rfl⟩
          case measure => simp [intOf]
        · have hz' : (((P k : Nat) : Int) != ((Q k : Nat) : Int)) = true := by rw [bne_iff_ne]; omega
          by_cases hl : P k < Q k
          · have hl' : ((P k : Nat) : Int) < ((Q k : Nat) : Int) := by omega
            go_wp2
            go_quiet (fail)
            go_wp2
            go_quiet (fail)
            go_wp2
            go_ret
            exact ⟨by rw [HW.out, ← HT.out, Cmp.cmpTop, if_neg hz, if_pos hl]; rfl, _, by rw [World.drewN_drewN, World.drewN_drewN]⟩
          · have hl' : ¬ ((P k : Nat) : Int) < ((Q k : Nat) : Int) := by omega
            go_wp2
            go_quiet (fail)
            go_wp2
            go_quiet (fail)
            go_wp2
            go_ret
            exact ⟨by rw [HW.out, ← HT.out, Cmp.cmpTop, if_neg hz, if_neg hl]; rfl, _, by rw [World.drewN_drewN, World.drewN_drewN]⟩
  · have hnm' : (((n : Nat) : Int) != ((m : Nat) : Int)) = true := by rw [bne_iff_ne]; omega
    by_cases hl : n < m
    · have hl' : ((n : Nat) : Int) < ((m : Nat) : Int) := by omega
      have HW : Hid (Cmp.cmpW P n Q m = -1) := by unfold Cmp.cmpW; exact (if_neg hnm).trans (if_pos hl)
      go_enter Try.func45, Try.ntmps45
      go_wp2
      go_ret
      exact ⟨by rw [HW.out]; rfl, 0, rfl⟩
    · have hl' : ¬ ((n : Nat) : Int) < ((m : Nat) : Int) := by omega
      have HW : Hid (Cmp.cmpW P n Q m = 1) := by unfold Cmp.cmpW; exact (if_neg hnm).trans (if_neg hl)
      go_enter Try.func45, Try.ntmps45
      go_wp2
      go_ret
      exact ⟨by rw [HW.out]; rfl, 0, rfl⟩
end Go.Proofs.Qxb6003719a
