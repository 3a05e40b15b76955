/-
  FnExactAgreesWithTruncation past its early returns.
-/
import Derived.Test.Qxb6003732aTruncC
namespace Go.Proofs.Qxb6003732a
open Go.RowKit

theorem bool_ext {a b : Bool} (h : a = true ↔ b = true) : a = b := by cases a <;> cases b <;> simp at h <;> rfl

/-- zzEqualBytes at one length, the answer told. -/
theorem equal_as (a d : Option Addr) (n c c2 b off b2 off2 : Nat) (X Y : Nat → Int) (v : Bool) (w : World) (hn : n ≤ 2000000) (hx : View .u8 w a n b off X) (hy : View .u8 w d n b2 off2 Y) (hv : v = true ↔ ∀ i, i < n → X i = Y i) :
    Calls Try.prog 12 #[.slice a n c, .slice d n c2] w fun e w' => e = .returned (.bool v) ∧ Below w.heap.size w w' ∧ w'.heap = w.heap := by
  refine (equalBytes_any a d n c n c2 b off b2 off2 X Y w hn hx hy).mono ?_
  rintro e w' ⟨⟨u, rfl, hu⟩, h⟩
  have : u = v := bool_ext (hu.trans ⟨fun h => hv.2 h.2, fun h => ⟨rfl, hv.1 h⟩⟩)
  rw [this]
  exact ⟨rfl, h⟩

theorem nb_eq {X Y : Nat → Nat} {i : Nat} : nb X i = nb Y i ↔ X i = Y i := by unfold nb; omega

set_option maxHeartbeats 2000000 in
set_option maxRecDepth 100000 in
theorem exactMain (a0 a1 : Option Addr) (n0 c0 n c b0 off0 b off : Nat) (F : Nat → Int) (X : Nat → Nat) (len : Int) (w : World) (hv0 : View .u8 w a0 n0 b0 off0 F) (hv : View .u8 w a1 n b off (nb X)) (hX : ∀ i, X i < 256) (hnm : n0 + n ≤ 65536) (hl0 : -1048576 ≤ len) (hl1 : len ≤ 1048576) :
    Calls Try.prog 4 #[.slice a0 n0 c0, .slice a1 n c, .int .i64 len] w fun e w' => e = .returned (.bool true) ∧ Below w.heap.size w w' := by
  have c13 : ∀ w, Calls Try.prog 13 #[.slice a0 n0 c0, .slice a1 n c, .int .i64 len] w fun e w' => e = .returned (.bool true) ∧ w = w' := fun w => by
    go_enter Try.func13, Try.ntmps13
    go_wp2
    go_ret
    exact ⟨rfl, rfl⟩
  have hnm' : ¬ (65536 : Int) < (n0 : Int) + (n : Int) := by omega
  have hl0' : ¬ len < -1048576 := by omega
  have hl1' : ¬ 1048576 < len := by omega
  by_cases hA : 0 ≤ len ∧ (n : Int) = (len + 7) / 8
  · obtain ⟨h0, h1⟩ := hA
    obtain ⟨l, rfl⟩ := Int.eq_ofNat_of_zero_le h0
    have hn' : n = (l + 7) / 8 := by omega
    have HN : Hid (n = (l + 7) / 8) := hn'
    have h1' : ((n : Int) == ((l : Int) + 7) / 8) = true := by rw [beq_iff_eq]; exact h1
    clear h1 hn'
    go_enter Try.func4, Try.ntmps4
    go_wp2_with fail
    refine (c13 _).mono ?_
    rintro e w' ⟨rfl, rfl⟩
    clear c13
    go_wp2_with fail
    refine (cloneBytes_any a0 n0 c0 b0 off0 F _ (by omega) hv0).mono ?_
    rintro e w1 ⟨af, cf, rfl, _, _, hb1, _⟩
    have hv1 := hv.later hb1 (Nat.le_refl _)
    go_wp2_with fail
    refine (cloneBytes_any a1 n c b off (nb X) _ (by omega) hv1).mono ?_
    rintro e w2 ⟨ax, cx, rfl, hcx, hcx2, hb2, hv2⟩
    have hB2 : Below w.heap.size w w2 := hb1.trans (hb2.mono hb1.size)
    clear hb1 hb2 hv hv0 hv1
    go_wp2_with fail
    refine (zzExact_any af n0 cf ax n cx w1.heap.size 0 (l : Int) X _ (by omega) (by omega) (by omega) hX hv2).mono ?_
    rintro e w3 ⟨rfl, hb3⟩
    have hv3 := hv2.later hb3 (Nat.le_refl _)
    have hB3 : Below w.heap.size w w3 := hB2.trans (hb3.mono hB2.size)
    clear hb3 hv2 hB2
    go_wp2_with fail
    refine (zzTrunc_any af n0 cf ax n cx w1.heap.size 0 l n X _ (by omega) hcx (by omega) HN (Nat.le_refl _) (by omega) hX hv3).mono ?_
    rintro e w4 ⟨a4, c4, g4, rfl, _, _, _, hb4, hv4⟩
    have hx4 := hv3.later hb4 (Nat.le_refl _)
    have hB4 : Below w.heap.size w w4 := hB3.trans (hb4.mono hB3.size)
    clear hb4 hv3 hB3
    have hal : ∀ o, Below w4.heap.size w4 (w4.alloc o) := fun o => (Below.refl _ _).alloc (Nat.le_refl _) _
    have hx5 : ∀ o, View .u8 (w4.alloc o) ax n w1.heap.size 0 (nb X) := fun o => hx4.later (hal o) (Nat.le_refl _)
    have hv5 : ∀ o, View .u8 (w4.alloc o) a4 n g4 0 (nb (Tr.truncAt l X)) := fun o => hv4.later (hal o) (Nat.le_refl _)
    have hB5 : ∀ o, Below w.heap.size w (w4.alloc o) := fun o => hB4.trans ((hal o).mono hB4.size)
    have HI : Hid (exactOf (l : Int) n X = true ↔ ∀ i, i < n → nb (Tr.truncAt l X) i = nb X i) := by
      show _ ↔ _
      rw [exactOf_pos l n X HN.out, Tr.exact_iff]
      constructor
      · intro h i hi; exact nb_eq.2 (h i (by have := HN.out; omega))
      · intro h i hi; exact nb_eq.1 (h i (by have := HN.out; omega))
    clear hx4 hv4 hB4 hal
    go_wp2_with fail
    refine (equal_as a4 ax n c4 cx g4 0 w1.heap.size 0 _ _ (exactOf (l : Int) n X) _ (by omega) (hv5 _) (hx5 _) HI.out).mono ?_
    rintro e w6 ⟨rfl, hb6, _⟩
    have hB6 : Below w.heap.size w w6 := (hB5 _).trans (hb6.mono (hB5 _).size)
    clear hx5 hv5 hb6 hB5
    go_wp2
    go_ret
    exact ⟨rfl, hB6⟩
  · have HE : Hid (exactOf len n X = false) := exactOf_neg len n X hA
    by_cases h0 : 0 ≤ len
    · have h0' : decide (0 ≤ len) = true := decide_eq_true h0
      have h1' : ((n : Int) == (len + 7) / 8) = false := beq_eq_false_iff_ne.2 (fun e => hA ⟨h0, e⟩)
      clear hA
      go_enter Try.func4, Try.ntmps4
      go_wp2_with fail
      refine (c13 _).mono ?_
      rintro e w' ⟨rfl, rfl⟩
      clear c13
      go_wp2_with fail
      refine (cloneBytes_any a0 n0 c0 b0 off0 F _ (by omega) hv0).mono ?_
      rintro e w1 ⟨af, cf, rfl, _, _, hb1, _⟩
      have hv1 := hv.later hb1 (Nat.le_refl _)
      go_wp2_with fail
      refine (cloneBytes_any a1 n c b off (nb X) _ (by omega) hv1).mono ?_
      rintro e w2 ⟨ax, cx, rfl, hcx, hcx2, hb2, hv2⟩
      have hB2 : Below w.heap.size w w2 := hb1.trans (hb2.mono hb1.size)
      clear hb1 hb2 hv hv0 hv1
      go_wp2_with fail
      refine (zzExact_any af n0 cf ax n cx w1.heap.size 0 len X _ (by omega) (by omega) (by omega) hX hv2).mono ?_
      rintro e w3 ⟨rfl, hb3⟩
      have hB3 : Below w.heap.size w w3 := hB2.trans (hb3.mono hB2.size)
      clear hb3 hv2 hB2
      rw [HE.out]
      go_wp2
      go_ret
      exact ⟨rfl, hB3⟩
    · have h0' : decide (0 ≤ len) = false := decide_eq_false h0
      clear hA
      go_enter Try.func4, Try.ntmps4
      go_wp2_with fail
      refine (c13 _).mono ?_
      rintro e w' ⟨rfl, rfl⟩
      clear c13
      go_wp2_with fail
      refine (cloneBytes_any a0 n0 c0 b0 off0 F _ (by omega) hv0).mono ?_
      rintro e w1 ⟨af, cf, rfl, _, _, hb1, _⟩
      have hv1 := hv.later hb1 (Nat.le_refl _)
      go_wp2_with fail
      refine (cloneBytes_any a1 n c b off (nb X) _ (by omega) hv1).mono ?_
      rintro e w2 ⟨ax, cx, rfl, hcx, hcx2, hb2, hv2⟩
      have hB2 : Below w.heap.size w w2 := hb1.trans (hb2.mono hb1.size)
      clear hb1 hb2 hv hv0 hv1
      go_wp2_with fail
      refine (zzExact_any af n0 cf ax n cx w1.heap.size 0 len X _ (by omega) (by omega) (by omega) hX hv2).mono ?_
      rintro e w3 ⟨rfl, hb3⟩
      have hB3 : Below w.heap.size w w3 := hB2.trans (hb3.mono hB2.size)
      clear hb3 hv2 hB2
      rw [HE.out]
      go_wp2
      go_ret
      exact ⟨rfl, hB3⟩
end Go.Proofs.Qxb6003732a
