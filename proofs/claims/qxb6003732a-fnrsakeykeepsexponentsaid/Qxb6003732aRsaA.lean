/-
  The walks of byteorder.BEUint64, bigEndianWord.
-/
import Derived.Test.Qxb6003732aTruncA
import Derived.Test.Qxb6003732aRsaPlain
namespace Go.Proofs.Qxb6003732a
open Go.RowKit

namespace Rsa
theorem or_gen (i : Nat) {x y : Int} (hy₀ : 0 ≤ y) (hy : y < 2 ^ i) (hx₀ : 0 ≤ x) (hx : x % 2 ^ i = 0) (hx₁ : x < 18446744073709551616) (hi : i ≤ 56) : bits .or .u64 y x = y + x := by
  obtain ⟨a, rfl⟩ := Int.eq_ofNat_of_zero_le hy₀
  obtain ⟨b, rfl⟩ := Int.eq_ofNat_of_zero_le hx₀
  have ha : a < 2 ^ i := by
    have : ((2 ^ i : Nat) : Int) = (2 : Int) ^ i := by simp
    omega
  have hb : b % 2 ^ i = 0 := by
    have e : ((b % 2 ^ i : Nat) : Int) = (b : Int) % (2 : Int) ^ i := by simp
    omega
  have ha2 : a < 18446744073709551616 := Nat.lt_of_lt_of_le ha (Nat.le_trans (Nat.pow_le_pow_right (by decide) hi) (by decide))
  rw [u64_or_nat _ _ ha2 (by omega), Nat.or_comm, nat_join i _ _ hb ha]; omega
theorem or8 {x y : Int} (hy₀ : 0 ≤ y) (hy : y < 256) (hx₀ : 0 ≤ x) (hx : x % 256 = 0) (hx₁ : x < 18446744073709551616) : bits .or .u64 y x = y + x := or_gen 8 hy₀ (by simpa using hy) hx₀ (by simpa using hx) hx₁ (by omega)
theorem or16 {x y : Int} (hy₀ : 0 ≤ y) (hy : y < 65536) (hx₀ : 0 ≤ x) (hx : x % 65536 = 0) (hx₁ : x < 18446744073709551616) : bits .or .u64 y x = y + x := or_gen 16 hy₀ (by simpa using hy) hx₀ (by simpa using hx) hx₁ (by omega)
theorem or24 {x y : Int} (hy₀ : 0 ≤ y) (hy : y < 16777216) (hx₀ : 0 ≤ x) (hx : x % 16777216 = 0) (hx₁ : x < 18446744073709551616) : bits .or .u64 y x = y + x := or_gen 24 hy₀ (by simpa using hy) hx₀ (by simpa using hx) hx₁ (by omega)
theorem or32 {x y : Int} (hy₀ : 0 ≤ y) (hy : y < 4294967296) (hx₀ : 0 ≤ x) (hx : x % 4294967296 = 0) (hx₁ : x < 18446744073709551616) : bits .or .u64 y x = y + x := or_gen 32 hy₀ (by simpa using hy) hx₀ (by simpa using hx) hx₁ (by omega)
theorem or40 {x y : Int} (hy₀ : 0 ≤ y) (hy : y < 1099511627776) (hx₀ : 0 ≤ x) (hx : x % 1099511627776 = 0) (hx₁ : x < 18446744073709551616) : bits .or .u64 y x = y + x := or_gen 40 hy₀ (by simpa using hy) hx₀ (by simpa using hx) hx₁ (by omega)
theorem or48 {x y : Int} (hy₀ : 0 ≤ y) (hy : y < 281474976710656) (hx₀ : 0 ≤ x) (hx : x % 281474976710656 = 0) (hx₁ : x < 18446744073709551616) : bits .or .u64 y x = y + x := or_gen 48 hy₀ (by simpa using hy) hx₀ (by simpa using hx) hx₁ (by omega)
theorem or56 {x y : Int} (hy₀ : 0 ≤ y) (hy : y < 72057594037927936) (hx₀ : 0 ≤ x) (hx : x % 72057594037927936 = 0) (hx₁ : x < 18446744073709551616) : bits .or .u64 y x = y + x := or_gen 56 hy₀ (by simpa using hy) hx₀ (by simpa using hx) hx₁ (by omega)
end Rsa

set_option maxHeartbeats 1000000 in
set_option maxRecDepth 100000 in
theorem be64_any (g o n c b0 b1 b2 b3 b4 b5 b6 b7 : Nat) (w : World) (hn : n = 8) (c0 : w.cell? ⟨g, o, none⟩ = some (.int .u8 ((b0 : Nat) : Int))) (c1 : w.cell? ⟨g, o + 1, none⟩ = some (.int .u8 ((b1 : Nat) : Int))) (c2 : w.cell? ⟨g, o + 2, none⟩ = some (.int .u8 ((b2 : Nat) : Int))) (c3 : w.cell? ⟨g, o + 3, none⟩ = some (.int .u8 ((b3 : Nat) : Int))) (c4 : w.cell? ⟨g, o + 4, none⟩ = some (.int .u8 ((b4 : Nat) : Int))) (c5 : w.cell? ⟨g, o + 5, none⟩ = some (.int .u8 ((b5 : Nat) : Int))) (c6 : w.cell? ⟨g, o + 6, none⟩ = some (.int .u8 ((b6 : Nat) : Int))) (c7 : w.cell? ⟨g, o + 7, none⟩ = some (.int .u8 ((b7 : Nat) : Int))) (h0 : b0 < 256) (h1 : b1 < 256) (h2 : b2 < 256) (h3 : b3 < 256) (h4 : b4 < 256) (h5 : b5 < 256) (h6 : b6 < 256) (h7 : b7 < 256) :
    Calls Try.prog 41 #[.slice (some ⟨g, o, none⟩) n c] w fun e w' => e = .returned (.int .u64 ((b7 + b6 * 256 + b5 * 65536 + b4 * 16777216 + b3 * 4294967296 + b2 * 1099511627776 + b1 * 281474976710656 + b0 * 72057594037927936 : Nat) : Int)) ∧ ∃ q, w' = w.drewN q := by
  subst hn
  go_enter Try.func41, Try.ntmps41
  go_wp2
  go_quiet (fail)
  go_wp2
  go_ret
  refine ⟨?_, _, rfl⟩
  simp (disch := omega) only [Rsa.or8, Rsa.or16, Rsa.or24, Rsa.or32, Rsa.or40, Rsa.or48, Rsa.or56]
  exact congrArg (fun x => Ending.returned (Value.int .u64 x)) (by omega)

theorem word_be (n : Nat) (X : Nat → Nat) (j p : Nat) (h : p + 8 * j + 8 = n) : Rsa.word n X j = X (p + 7) + X (p + 6) * 256 + X (p + 5) * 65536 + X (p + 4) * 16777216 + X (p + 3) * 4294967296 + X (p + 2) * 1099511627776 + X (p + 1) * 281474976710656 + X p * 72057594037927936 := by
  have hb : ∀ t, t < 8 → Rsa.back n X (8 * j + t) = X (p + (7 - t)) := fun t ht => by
    unfold Rsa.back
    rw [if_pos (by omega)]
    congr 1; omega
  unfold Rsa.word
  simp only [Rsa.lsum]
  rw [hb 0 (by omega), hb 1 (by omega), hb 2 (by omega), hb 3 (by omega), hb 4 (by omega), hb 5 (by omega), hb 6 (by omega), hb 7 (by omega)]
  simp

set_option maxHeartbeats 1000000 in
theorem bigEndianWord_any (g o c n j p : Nat) (X : Nat → Nat) (w : World) (hX : ∀ i, X i < 256) (h : p + 8 * j + 8 = n) (hv : ∀ t, t < 8 → w.cell? ⟨g, o + t, none⟩ = some (.int .u8 ((X (p + t) : Nat) : Int))) :
    Calls Try.prog 36 #[.slice (some ⟨g, o, none⟩) 8 c] w fun e w' => e = .returned (.int .u64 ((Rsa.word n X j : Nat) : Int)) ∧ ∃ q, w' = w.drewN q := by
  have hc := be64_any g o 8 c (X p) (X (p + 1)) (X (p + 2)) (X (p + 3)) (X (p + 4)) (X (p + 5)) (X (p + 6)) (X (p + 7)) w rfl (hv 0 (by omega)) (hv 1 (by omega)) (hv 2 (by omega)) (hv 3 (by omega)) (hv 4 (by omega)) (hv 5 (by omega)) (hv 6 (by omega)) (hv 7 (by omega)) (hX _) (hX _) (hX _) (hX _) (hX _) (hX _) (hX _) (hX _)
  rw [← word_be n X j p h] at hc
  have HC := (show Hid (Calls Try.prog 41 #[.slice (some ⟨g, o, none⟩) 8 c] w fun e w' => e = .returned (.int .u64 ((Rsa.word n X j : Nat) : Int)) ∧ ∃ q, w' = w.drewN q) from hc)
  clear hc hv h
  go_enter Try.func36, Try.ntmps36
  go_wp2_with fail
  refine HC.out.mono ?_
  rintro e w' ⟨rfl, q, rfl⟩
  go_wp2
  go_ret
  exact ⟨rfl, q, rfl⟩
end Go.Proofs.Qxb6003732a
