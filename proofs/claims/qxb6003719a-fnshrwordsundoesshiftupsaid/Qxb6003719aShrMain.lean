/-
  FnShrWordsUndoesShiftUp past its early returns.
-/
import Derived.Test.Qxb6003719aWords
import Derived.Deep.QuietTactic
import Derived.BigQuiet
import Derived.WalkSmall
namespace Go.Proofs.Qxb6003719a
open Go.RowKit

theorem toWords1 (a : Option Addr) (n c b off : Nat) (X : Nat → Nat) (w : World) (hn : n ≤ 5000) (hv : View w a n b off X) :
    Calls Try.prog 8 #[.slice a n c, .int .i64 1] w fun e w' => e = .returned (.slice (some ⟨w.heap.size, 0, none⟩) (n + 1) (n + 1)) ∧ Below w.heap.size w w' ∧ w'.heap.size = w.heap.size + 1 ∧ w'.rowIs w.heap.size 26 (n + 1) (wordRow fun i => if i < n then X i else 0) :=
  toWords_any a n c b off 1 X w hn (by omega) hv
theorem toWords0 (a : Option Addr) (n c b off : Nat) (X : Nat → Nat) (w : World) (hn : n ≤ 5000) (hv : View w a n b off X) :
    Calls Try.prog 8 #[.slice a n c, .int .i64 0] w fun e w' => e = .returned (.slice (some ⟨w.heap.size, 0, none⟩) n n) ∧ Below w.heap.size w w' ∧ w'.heap.size = w.heap.size + 1 ∧ w'.rowIs w.heap.size 26 n (wordRow X) := by
  refine (toWords_any a n c b off 0 X w hn (by omega) hv).mono ?_
  rintro e w' ⟨rfl, h1, h2, h3⟩
  exact ⟨rfl, h1, h2, h3.congr fun i hi => by simp only [wordRow]; rw [if_pos (by omega)]⟩

/-- X, and zeros above. -/
def ext (n : Nat) (X : Nat → Nat) : Nat → Nat := fun i => if i < n then X i else 0
/-- X with the low s bits of its first word gone (m = 2^s). -/
def low (m : Nat) (X : Nat → Nat) : Nat → Nat := fun i => if i = 0 then X 0 / m * m else X i

theorem ext_lt (n : Nat) {X : Nat → Nat} (hX : ∀ i, X i < 18446744073709551616) (i : Nat) : ext n X i < 18446744073709551616 := by
  unfold ext; split
  · exact hX i
  · decide

theorem mulUp (b n m s : Nat) (X : Nat → Nat) (w : World) (HM : Hid (m = 2 ^ s)) (hs : s < 64) (hm : m < 18446744073709551616) (hn : n ≤ 5000) (hX : ∀ i, X i < 18446744073709551616) (hrow : w.rowIs b 26 (n + 1) (wordRow (ext n X))) :
    Calls Try.prog 9 #[.slice (some ⟨b, 0, none⟩) (n + 1) (n + 1), .int .u64 m] w fun e w' => e = .returned (.int .u64 0) ∧ Below b w w' ∧ w'.heap.size = w.heap.size ∧ w'.rowIs b 26 (n + 1) (wordRow (Shr.mulAt m (ext n X))) := by
  refine (zzMul_any b (n + 1) m (ext n X) w hm (by omega) (fun i _ => ext_lt n hX i) hrow).mono ?_
  rintro e w' ⟨rfl, h⟩
  refine ⟨?_, h⟩
  have e0 : Shr.car m (ext n X) (n + 1) = 0 := by
    rw [HM.out]; exact Shr.up_carry s n hs _ (fun i _ => ext_lt n hX i) (fun i hi => by unfold ext; rw [if_neg (by omega)])
  rw [e0]; rfl

theorem shrUp (b n m s : Nat) (X : Nat → Nat) (w : World) (HM : Hid (m = 2 ^ s)) (hs : s < 64) (hn : n ≤ 5000) (hX : ∀ i, X i < 18446744073709551616) (hrow : w.rowIs b 26 (n + 1) (wordRow (Shr.mulAt m (ext n X)))) :
    Calls Try.prog 10 #[.slice (some ⟨b, 0, none⟩) (n + 1) (n + 1), .int .u64 s] w fun e w' => e = .returned (.tuple #[]) ∧ Below b w w' ∧ w'.heap.size = w.heap.size ∧ w'.rowIs b 26 (n + 1) (wordRow (ext n X)) := by
  refine (zzShr_any b (n + 1) s (Shr.mulAt m (ext n X)) w hs (by omega) (fun i _ => Nat.mod_lt _ (by decide)) hrow).mono ?_
  rintro e w' ⟨rfl, h1, h2, h3⟩
  refine ⟨rfl, h1, h2, h3.congr fun i hi => ?_⟩
  simp only [wordRow]
  rw [HM.out, Shr.up_down s n hs _ (fun i _ => ext_lt n hX i) (fun i hi => by unfold ext; rw [if_neg (by omega)]) i (by omega)]

theorem shr_lt (s n : Nat) (hs : s < 64) {X : Nat → Nat} (hX : ∀ i, X i < 18446744073709551616) (i : Nat) (hi : i < n) : Shr.shrAt s n X i < 18446744073709551616 := (Shr.shr_parts s n hs X (fun i _ => hX i) i hi).2.2

theorem mulDown (b n m s : Nat) (X : Nat → Nat) (w : World) (HM : Hid (m = 2 ^ s)) (hs : s < 64) (hm : m < 18446744073709551616) (hn : n ≤ 5000) (hX : ∀ i, X i < 18446744073709551616) (hrow : w.rowIs b 26 n (wordRow (Shr.shrAt s n X))) :
    Calls Try.prog 9 #[.slice (some ⟨b, 0, none⟩) n n, .int .u64 m] w fun e w' => e = .returned (.int .u64 0) ∧ Below b w w' ∧ w'.heap.size = w.heap.size ∧ w'.rowIs b 26 n (wordRow (low m X)) := by
  refine (zzMul_any b n m _ w hm (by omega) (fun i hi => shr_lt s n hs hX i hi) hrow).mono ?_
  rintro e w' ⟨rfl, h1, h2, h3⟩
  refine ⟨?_, h1, h2, h3.congr fun i hi => ?_⟩
  · have e0 : Shr.car m (Shr.shrAt s n X) n = 0 := by
      rw [HM.out]; exact Shr.down_carry s n hs X (fun i _ => hX i)
    rw [e0]; rfl
  · simp only [wordRow]
    rw [HM.out, Shr.down_up s n hs X (fun i _ => hX i) i hi, low]

theorem low_zero (m s : Nat) (X : Nat → Nat) (HM : Hid (m = 2 ^ s)) (hs : s < 64) (hm1 : 1 ≤ m) (hX : ∀ i, X i < 18446744073709551616) : bits .andNot .u64 ((X 0 : Nat) : Int) ((m : Int) - 1) = ((low m X 0 : Nat) : Int) := by
  have h := Shr.andNot_step s (X 0) hs (hX 0)
  rw [← HM.out] at h
  rw [show (m : Int) - 1 = ((m - 1 : Nat) : Int) by omega, h]
  simp [low]

set_option maxHeartbeats 1000000 in
theorem shrMain (a : Option Addr) (n c b off s : Nat) (X : Nat → Nat) (w : World) (hv : View w a n b off X) (hX : ∀ i, X i < 18446744073709551616) (hn : n ≤ 4096) (hs : s < 64) :
    Calls Try.prog 3 #[.slice a n c, .int .u64 s] w fun e w' => e = .returned (.bool true) ∧ Below w.heap.size w w' := by
  have c6 : ∀ w, Calls Try.prog 6 #[.slice a n c, .int .u64 s] w fun e w' => e = .returned (.bool true) ∧ w = w' := fun w => by
    go_enter Try.func6, Try.ntmps6
    go_wp2
    go_ret
    exact ⟨rfl, rfl⟩
  have hs' : ¬ (64 : Int) ≤ (s : Int) := by omega
  have hn' : ¬ (4096 : Int) < (n : Int) := by omega
  obtain ⟨m, hm⟩ : ∃ m : Nat, m = 2 ^ s := ⟨_, rfl⟩
  have hpq := Shr.pw s hs
  have hm1 : 1 ≤ m := by rw [hm]; exact Nat.two_pow_pos s
  have hm2 : m < 18446744073709551616 + 1 := by
    have : 2 ^ s ≤ 2 ^ s * 2 ^ (64 - s) := Nat.le_mul_of_pos_right _ (Nat.two_pow_pos _)
    omega
  have hm3 : m < 18446744073709551616 := by
    rw [hm]; exact Nat.lt_of_lt_of_le (Nat.pow_lt_pow_right (by decide) hs) (by decide)
  have hwm : IntKind.u64.wrap (2 ^ s) = (m : Int) := by
    rw [IntKind.wrap_u64, show ((2 : Int) ^ s) = ((2 ^ s : Nat) : Int) by simp, ← hm]; omega
  have HM : Hid (m = 2 ^ s) := hm
  clear hm hpq hm2
  go_enter Try.func3, Try.ntmps3
  go_wp2_with fail
  refine (c6 _).mono ?_
  rintro e w' ⟨rfl, rfl⟩
  clear c6
  go_wp2_with fail
  refine (clone_any a n c b off X _ (by omega) hv).mono ?_
  rintro e w1 ⟨a1, c1, rfl, hb1, hv1⟩
  clear hv
  go_wp2_with fail
  refine (toWords1 a1 n c1 w.heap.size 0 X _ (by omega) hv1).mono ?_
  rintro e w2 ⟨rfl, hb2, hz2, hr2⟩
  clear hz2
  go_wp2_with fail
  refine (mulUp w1.heap.size n m s X _ HM hs hm3 (by omega) hX hr2).mono ?_
  rintro e w3 ⟨rfl, hb3, hz3, hr3⟩
  clear hz3
  go_wp2_with fail
  refine (shrUp w1.heap.size n m s X _ HM hs (by omega) hX hr3).mono ?_
  rintro e w4 ⟨rfl, hb4, hz4, hr4⟩
  clear hz4
  have hv4 : View w4 a1 n w.heap.size 0 X := hv1.later (hb2.trans (hb3.trans hb4)) (Nat.le_refl _)
  have hB4 : Below w.heap.size w w4 := hb1.trans ((hb2.trans (hb3.trans hb4)).mono hb1.size)
  clear hb2 hb3 hb4 hr2 hr3 hv1 hb1
  go_wp2
  go_loopw [8] (fun i wr => ∃ k : Nat, k ≤ n ∧ i = .int .i64 k ∧ Below w4.heap.size w4 wr) (fun i _ => n - (intOf i).toNat)
  case atStart => exact ⟨0, Nat.zero_le _, rfl, Below.refl _ _⟩
  case round =>
    obtain ⟨k, hk, rfl, hbr⟩ := hrel
    have hv5 : View wr a1 n w.heap.size 0 X := hv4.later hbr (Nat.le_refl _)
    have hr5 : wr.rowIs w1.heap.size 26 (n + 1) (wordRow (ext n X)) := hr4.of_block (hbr.block _ hr4.lt)
    by_cases hlt : k < n
    · obtain rfl := hv5.1 (by omega)
      have g0 : wr.cell? ⟨w.heap.size, k, none⟩ = some (.int .u64 ((X k : Nat) : Int)) := by have := hv5.2 k hlt; rwa [Nat.zero_add] at this
      have g1 : wr.cell? ⟨w1.heap.size, k, none⟩ = some (.int .u64 ((X k : Nat) : Int)) := by rw [hr5.cell (by omega)]; simp only [wordRow, ext]; rw [if_pos hlt]
      have hk1 : (k : Int) < (n : Int) := by omega
      have hk2 : (k : Int) < (n : Int) + 1 := by omega
      clear hv5 hr5
      go_wp2
      go_quiet (fail)
      go_wp2
      go_roundw
      case rel => exact ⟨k + 1, by omega, by go_num, below_drewN hbr _⟩
      case measure => simp [intOf]; omega
    · have g1 : wr.cell? ⟨w1.heap.size, n, none⟩ = some (.int .u64 0) := by rw [hr5.cell (by omega)]; simp only [wordRow, ext]; rw [if_neg (by omega)]; rfl
      have hB5 : Below w.heap.size w wr := hB4.trans (hbr.mono hB4.size)
      have hkn : k = n := by omega
      subst hkn
      clear hr5 hr4 hv4 hB4 hbr
      go_wp2_with fail
      refine (toWords0 a1 k c1 w.heap.size 0 X _ (by omega) hv5).mono ?_
      rintro e w6 ⟨rfl, hb6, hz6, hr6⟩
      clear hz6
      go_wp2_with fail
      refine (zzShr_any wr.heap.size k s X _ hs (by omega) (fun i _ => hX i) hr6).mono ?_
      rintro e w7 ⟨rfl, hb7, hz7, hr7⟩
      clear hz7
      go_wp2_with fail
      refine (mulDown wr.heap.size k m s X _ HM hs hm3 (by omega) hX hr7).mono ?_
      rintro e w8 ⟨rfl, hb8, hz8, hr8⟩
      clear hz8
      have hv8 : View w8 a1 k w.heap.size 0 X := hv5.later (hb6.trans (hb7.trans hb8)) (Nat.le_refl _)
      have hB8 : Below w.heap.size w w8 := hB5.trans ((hb6.trans (hb7.trans hb8)).mono hB5.size)
      have hand := low_zero m s X HM hs hm1 hX
      clear hb6 hb7 hb8 hr6 hr7 hv5 hB5
      go_wp2
      go_loop [10] (fun i => ∃ j : Nat, j ≤ k ∧ i = .int .i64 j) (fun i => k - (intOf i).toNat)
      case atStart => exact ⟨0, Nat.zero_le _, rfl⟩
      case round =>
        obtain ⟨j, hj, rfl⟩ := hrel
        by_cases hlt : j < k
        · obtain rfl := hv8.1 (by omega)
          have g2 : w8.cell? ⟨w.heap.size, j, none⟩ = some (.int .u64 ((X j : Nat) : Int)) := by have := hv8.2 j hlt; rwa [Nat.zero_add] at this
          have g3 : w8.cell? ⟨wr.heap.size, j, none⟩ = some (.int .u64 ((low m X j : Nat) : Int)) := by rw [hr8.cell (by omega)]; rfl
          have hk1 : (j : Int) < (k : Int) := by omega
          by_cases hj0 : j = 0
          · subst hj0
            go_wp2
            go_round
            case rel => exact ⟨1, by omega, by go_num⟩
            case measure => simp [intOf]; omega
          · have hlow : low m X j = X j := by unfold low; rw [if_neg hj0]
            rw [hlow] at g3
            clear hlow
            go_wp2
            go_round
            case rel => exact ⟨j + 1, by omega, by go_num⟩
            case measure => simp [intOf]; omega
        · go_wp2
          go_ret
          exact ⟨rfl, hB8⟩
end Go.Proofs.Qxb6003719a
