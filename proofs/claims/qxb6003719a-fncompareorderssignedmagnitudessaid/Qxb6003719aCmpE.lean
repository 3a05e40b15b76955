/-
  The walks of cmpAbs, cmp.Compare, compare, ZZCompareG2: they only read.
-/
import Derived.Test.Qxb6003719aCmpD
namespace Go.Proofs.Qxb6003719a
open Go.RowKit

set_option maxHeartbeats 400000 in
theorem cmpAbs_any (b d n m : Nat) (xn yn : Bool) (P Q : Nat → Nat) (w : World) (hn : n ≤ 12) (hm : m ≤ 12) (hx : IsCoef w b xn n P) (hy : IsCoef w d yn m Q) :
    Calls Try.prog 38 #[.pointer (some ⟨b, 0, none⟩), .pointer (some ⟨d, 0, none⟩)] w fun e w' => e = .returned (.int .i64 (Cmp.cmpW P n Q m)) ∧ ∃ q, w' = w.drewN q := by
  have x1 := hx.len
  have x3 := hx.large
  have y1 := hy.len
  have y3 := hy.large
  have hn1 : (n : Int) ≤ 12 := by omega
  have hm1 : (m : Int) ≤ 12 := by omega
  have hn0 : (0 : Int) ≤ (n : Int) := by omega
  have hm0 : (0 : Int) ≤ (m : Int) := by omega
  have hc : ∀ q, Calls Try.prog 45 #[.slice (some ⟨b, 2, none⟩) n 12, .slice (some ⟨d, 2, none⟩) m 12] (w.drewN q) fun e w' => e = .returned (.int .i64 (Cmp.cmpW P n Q m)) ∧ ∃ q', w' = (w.drewN q).drewN q' :=
    fun q => cmpWords_any b d n m 12 12 P Q (w.drewN q) hn hm (fun i hi => hx.word i (by omega)) (fun i hi => hy.word i (by omega))
  have HC : Hid (∀ q, Calls Try.prog 45 #[.slice (some ⟨b, 2, none⟩) n 12, .slice (some ⟨d, 2, none⟩) m 12] (w.drewN q) fun e w' => e = .returned (.int .i64 (Cmp.cmpW P n Q m)) ∧ ∃ q', w' = (w.drewN q).drewN q') := hc
  clear hx hy hc
  go_enter Try.func38, Try.ntmps38
  go_wp2
  go_quiet ((go_at_call 45; exact Calls.quiet_of (HC.out _)))
  go_wp2
  go_ret
  exact ⟨rfl, _, rfl⟩

/-- cmp.Compare at int. -/
def cmpI (x y : Int) : Int := if x < y then -1 else if y < x then 1 else 0
theorem compareInt_any (x y : Int) (w : World) : Calls Try.prog 37 #[.int .i64 x, .int .i64 y] w fun e w' => e = .returned (.int .i64 (cmpI x y)) ∧ w = w' := by
  by_cases h : x < y
  · have HS : Hid (cmpI x y = -1) := by unfold cmpI; exact if_pos h
    go_enter Try.func37, Try.ntmps37
    go_wp2
    go_ret
    exact ⟨by rw [HS.out]; rfl, rfl⟩
  · by_cases h' : y < x
    · have HS : Hid (cmpI x y = 1) := by unfold cmpI; exact (if_neg h).trans (if_pos h')
      go_enter Try.func37, Try.ntmps37
      go_wp2
      go_ret
      exact ⟨by rw [HS.out]; rfl, rfl⟩
    · have HS : Hid (cmpI x y = 0) := by unfold cmpI; exact (if_neg h).trans (if_neg h')
      go_enter Try.func37, Try.ntmps37
      go_wp2
      go_ret
      exact ⟨by rw [HS.out]; rfl, rfl⟩

/-- What 'compare' answers of two coefs. -/
def compN (xn : Bool) (n : Nat) (P : Nat → Nat) (yn : Bool) (m : Nat) (Q : Nat → Nat) : Int :=
  if sgnN xn n = sgnN yn m then (if xn = true then Cmp.cmpW Q m P n else Cmp.cmpW P n Q m) else cmpI (sgnN xn n) (sgnN yn m)

set_option maxHeartbeats 400000 in
theorem compare_any (b d n m : Nat) (xn yn : Bool) (P Q : Nat → Nat) (w : World) (hn : n ≤ 12) (hm : m ≤ 12) (hx : IsCoef w b xn n P) (hy : IsCoef w d yn m Q) :
    Calls Try.prog 26 #[.pointer (some ⟨b, 0, none⟩), .pointer (some ⟨d, 0, none⟩)] w fun e w' => e = .returned (.int .i64 (compN xn n P yn m Q)) ∧ ∃ q, w' = w.drewN q := by
  have x0 := hx.neg
  by_cases hs : sgnN xn n = sgnN yn m
  · cases xn with
    | true =>
      have HS : Hid (compN true n P yn m Q = Cmp.cmpW Q m P n) := by unfold compN; exact (if_pos hs).trans (if_pos rfl)
      have hs' : (sgnN true n != sgnN yn m) = false := by rw [hs]; exact bne_self_eq_false _
      go_enter Try.func26, Try.ntmps26
      go_wp2_with fail
      refine (signC_any b true n P _ hx).mono ?_
      rintro e w' ⟨rfl, rfl⟩
      go_wp2_with fail
      refine (signC_any d yn m Q _ hy).mono ?_
      rintro e w' ⟨rfl, rfl⟩
      clear hs
      go_wp2_with fail
      refine (cmpAbs_any d b m n yn true Q P _ hm hn hy hx).mono ?_
      rintro e w' ⟨rfl, q, rfl⟩
      go_wp2
      go_ret
      exact ⟨by rw [HS.out]; rfl, q, rfl⟩
    | false =>
      have HS : Hid (compN false n P yn m Q = Cmp.cmpW P n Q m) := by unfold compN; exact (if_pos hs).trans (if_neg (by decide))
      have hs' : (sgnN false n != sgnN yn m) = false := by rw [hs]; exact bne_self_eq_false _
      go_enter Try.func26, Try.ntmps26
      go_wp2_with fail
      refine (signC_any b false n P _ hx).mono ?_
      rintro e w' ⟨rfl, rfl⟩
      go_wp2_with fail
      refine (signC_any d yn m Q _ hy).mono ?_
      rintro e w' ⟨rfl, rfl⟩
      clear hs
      go_wp2_with fail
      refine (cmpAbs_any b d n m false yn P Q _ hn hm hx hy).mono ?_
      rintro e w' ⟨rfl, q, rfl⟩
      go_wp2
      go_ret
      exact ⟨by rw [HS.out]; rfl, q, rfl⟩
  · have HS : Hid (compN xn n P yn m Q = cmpI (sgnN xn n) (sgnN yn m)) := by unfold compN; exact if_neg hs
    have hs' : (sgnN xn n != sgnN yn m) = true := by rw [bne_iff_ne]; exact hs
    go_enter Try.func26, Try.ntmps26
    go_wp2_with fail
    refine (signC_any b xn n P _ hx).mono ?_
    rintro e w' ⟨rfl, rfl⟩
    go_wp2_with fail
    refine (signC_any d yn m Q _ hy).mono ?_
    rintro e w' ⟨rfl, rfl⟩
    go_wp2_with fail
    refine (compareInt_any (sgnN xn n) (sgnN yn m) _).mono ?_
    rintro e w' ⟨rfl, rfl⟩
    go_wp2
    go_ret
    exact ⟨by rw [HS.out]; rfl, 0, rfl⟩

theorem zzCompare_any (b d n m : Nat) (xn yn : Bool) (P Q : Nat → Nat) (w : World) (hn : n ≤ 12) (hm : m ≤ 12) (hx : IsCoef w b xn n P) (hy : IsCoef w d yn m Q) :
    Calls Try.prog 16 #[.pointer (some ⟨b, 0, none⟩), .pointer (some ⟨d, 0, none⟩)] w fun e w' => e = .returned (.int .i64 (compN xn n P yn m Q)) ∧ ∃ q, w' = w.drewN q := by
  go_enter Try.func16, Try.ntmps16
  go_wp2_with fail
  refine (compare_any b d n m xn yn P Q _ hn hm hx hy).mono ?_
  rintro e w' ⟨rfl, q, rfl⟩
  go_wp2
  go_ret
  exact ⟨rfl, q, rfl⟩

theorem sgnN_eq (neg : Bool) (P : Nat → Nat) : sgnN neg (Cmp.trimmed P 12) = Cmp.sgn neg P := by
  unfold sgnN Cmp.sgn
  by_cases h : Cmp.trimmed P 12 = 0
  · rw [if_pos h, if_pos ((Cmp.zero_iff P 12).2 h)]
  · rw [if_neg h, if_neg (fun e => h ((Cmp.zero_iff P 12).1 e))]
theorem compN_eq (xn : Bool) (P : Nat → Nat) (yn : Bool) (Q : Nat → Nat) : compN xn (Cmp.trimmed P 12) P yn (Cmp.trimmed Q 12) Q = Cmp.comp xn P yn Q := by
  unfold compN Cmp.comp cmpI
  rw [sgnN_eq, sgnN_eq, Cmp.cmpW_trimmed, Cmp.cmpW_trimmed]
  by_cases h : Cmp.sgn xn P = Cmp.sgn yn Q
  · rw [if_pos h, if_pos h]
  · rw [if_neg h, if_neg h]
    by_cases h' : Cmp.sgn xn P < Cmp.sgn yn Q
    · rw [if_pos h', if_pos h']
    · rw [if_neg h', if_neg h', if_pos (by omega)]
end Go.Proofs.Qxb6003719a
