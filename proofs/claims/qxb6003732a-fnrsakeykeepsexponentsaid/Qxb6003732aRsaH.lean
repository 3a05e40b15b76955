/-
  FnRSAKeyKeepsExponent past its early returns, further cases (written by program off one case).
-/
import Derived.Test.Qxb6003732aRsaF
namespace Go.Proofs.Qxb6003732a
open Go.RowKit
set_option linter.unusedVariables false

set_option maxHeartbeats 4000000 in
set_option maxRecDepth 100000 in
theorem main_z_n_small0 (a0 a2 : Option Addr) (n0 c0 n c b0 off0 b off k L U : Nat) (M X : Nat → Nat) (w : World) (hM : ∀ i, M i < 256) (hX : ∀ i, X i < 256) (hv0 : View .u8 w a0 n0 b0 off0 (nb M)) (hv : View .u8 w a2 n b off (nb X)) (hnm : n0 + n ≤ 1048576) (hk : Rsa.Lead n X k)
    (HL : Hid (Rsa.left n X = L)) (HU : Hid (Rsa.word n X 0 = U)) (h0 : L = 0 → U = 0) (hU : U < 18446744073709551616) (hL : L ≤ 1) (h8 : n - k ≤ 8) (HB : Hid (Rsa.bev X k (n - k) = U)) :
    Calls Try.prog 6 #[.slice a0 n0 c0, .bool false, .slice a2 n c, .bool true] w fun e w' => e = .returned (.bool true) ∧ Below w.heap.size w w' := by
  obtain ⟨hk1, hk2, hk3⟩ := hk
  have c18 : ∀ w, Calls Try.prog 18 #[.slice a0 n0 c0, .bool false, .slice a2 n c, .bool true] w fun e w' => e = .returned (.bool true) ∧ w = w' := fun w => by
    go_enter Try.func18, Try.ntmps18
    go_wp2
    go_ret
    exact ⟨rfl, rfl⟩
  have hnm' : ¬ (1048576 : Int) < (n0 : Int) + (n : Int) := by omega
  have hn0 : ¬ (1048576 : Int) < (n0 : Int) := by omega
  have hn1 : ¬ (1048576 : Int) < (n : Int) := by omega
  obtain ⟨pj, hpj⟩ := Option.isSome_iff_exists.1 (show (Try.prog.info? 43).isSome = true by kernel_rfl)
  have hal : ∀ (w : World) o, Below w.heap.size w (w.alloc o) := fun w o => (Below.refl _ _).alloc (Nat.le_refl _) _
  go_enter Try.func6, Try.ntmps6
  go_wp2_with fail
  refine (c18 _).mono ?_
  rintro e w' ⟨rfl, rfl⟩
  clear c18
  go_wp2_with fail
  refine (cloneG2_any a0 n0 c0 b0 off0 (nb M) _ (by omega) hv0).mono ?_
  rintro e w1 ⟨am, cm, rfl, hcm, hcm2, hb1, hv1⟩
  have hv' := hv.later hb1 (Nat.le_refl _)
  clear hv hv0
  go_wp2_with fail
  refine (cloneG2_any a2 n c b off (nb X) _ (by omega) hv').mono ?_
  rintro e w2 ⟨ax, cx, rfl, hcx, hcx2, hb2, hv2⟩
  have hv1' := hv1.later hb2 (Nat.le_refl _)
  have hB2 : Below w.heap.size w w2 := hb1.trans (hb2.mono hb1.size)
  clear hv1 hb1 hb2 hv'
  go_wp2_with fail
  obtain ⟨w3, HW3⟩ : ∃ w3, Hid (w2 = w3) := ⟨w2, rfl⟩
  obtain rfl := HW3.out
  have hv3 := hv2
  have hB3 := hB2
  clear HW3 hv1' hv2 hB2
  refine (SetBytes_any w2.heap.size ax n cx w1.heap.size 0 X _ (by omega) hcx (by omega) hX (hv3.later (hal w2 _) (Nat.le_refl _)) (heap_alloc_new w2 _)).mono ?_
  rintro e w4 ⟨rfl, hb4, hs4, hE4⟩
  have hB34 : Below w2.heap.size w2 w4 := (hal w2 _).trans hb4
  rw [HL.out, HU.out] at hE4
  clear hb4 hs4
  go_wp2_with fail
  refine (NegSelf_any w2.heap.size L U _ hE4).mono ?_
  rintro e w5 ⟨rfl, hb5, hs5, hE5⟩
  have hB5 : Below w.heap.size w w5 := hB3.trans ((hB34.trans hb5).mono hB3.size)
  have hv5 := hv3.later (hB34.trans hb5) (Nat.le_refl _)
  clear hb5 hs5 hE4 hB34 hB3 hv3 hal
  have HE : Hid (IsE _ _ _ _ _) := hE5
  clear hE5
  go_wp2
  go_loop [11] (fun i => ∃ t : Nat, t ≤ k ∧ i = .int .i64 t) (fun i => k - (intOf i).toNat)
  case atStart => exact ⟨0, Nat.zero_le _, rfl⟩
  case round =>
    obtain ⟨t, ht, rfl⟩ := hrel
    by_cases hlt : t < k
    · obtain rfl := hv5.1 (by omega)
      have g0 : w5.cell? ⟨w1.heap.size, t, none⟩ = some (.int .u8 0) := by
        have := hv5.2 t (by omega)
        rw [Nat.zero_add] at this
        rw [this]; unfold nb; rw [hk2 t hlt]; rfl
      have g1 : (t : Int) < (n : Int) := by omega
      have g2 : decide ((t : Int) < (n : Int)) = true := decide_eq_true g1
      clear hk2 hk3
      go_wp2
      go_round
      case rel => exact ⟨t + 1, by omega, by go_num⟩
      case measure => simp [intOf]; omega
    obtain rfl : t = k := by omega
    by_cases hkn : t < n
    · obtain rfl := hv5.1 (by omega)
      have g0 : w5.cell? ⟨w1.heap.size, t, none⟩ = some (.int .u8 ((X t : Nat) : Int)) := by
        have := hv5.2 t hkn
        rw [Nat.zero_add] at this
        exact this
      have g1 : (t : Int) < (n : Int) := by omega
      have g2 : decide ((t : Int) < (n : Int)) = true := decide_eq_true g1
      have g3 : (((X t : Nat) : Int) == 0) = false := beq_eq_false_iff_ne.2 (by have := hk3 hkn; omega)
      clear hk2 hk3
      have q8 : (n : Int) - (t : Int) ≤ 8 := by omega
      go_wp2
      go_loop [13, 14] (fun u j => ∃ s : Nat, s ≤ n - t ∧ u = .int .u64 ((Rsa.bev X t s : Nat) : Int) ∧ j = .int .i64 ((t + s : Nat) : Int)) (fun _ j => n - (intOf j).toNat)
      case atStart => exact ⟨0, Nat.zero_le _, rfl, rfl⟩
      case round =>
        obtain ⟨s, hs, rfl, rfl⟩ := hrel
        by_cases hsn : s < n - t
        · skip
          have g0 : w5.cell? ⟨w1.heap.size, t + s, none⟩ = some (.int .u8 ((X (t + s) : Nat) : Int)) := by
            have := hv5.2 (t + s) (by omega)
            rw [Nat.zero_add] at this
            exact this
          have g1 : (t : Int) + (s : Int) < (n : Int) := by omega
          have hxr : ((X (t + s) : Nat) : Int) < 256 := by have := hX (t + s); omega
          have HO : Hid (bits .or .u64 (IntKind.u64.wrap (((Rsa.bev X t s : Nat) : Int) * 256)) ((X (t + s) : Nat) : Int) = ((Rsa.bev X t (s + 1) : Nat) : Int)) := by
            have h := (Rsa.shl_byte s (Rsa.bev X t s) (X (t + s)) (by omega) (Rsa.bev_lt X hX t s) (hX _)).1
            show _ = _
            rw [h]; rfl
          go_wp2
          go_round
          case rel => exact ⟨s + 1, by omega, congrArg (Value.int .u64) HO.out, by go_num⟩
          case measure => simp [intOf]; omega
        obtain rfl : s = n - t := by omega
        rw [HB.out]
        have q9 : ¬ (t : Int) + ((n - t : Nat) : Int) < (n : Int) := by omega
        go_wp2_with fail
        refine (zzNil_any w2.heap.size _).mono ?_
        rintro e w6 ⟨rfl, hb6⟩
        have hB6 : Below w.heap.size w w6 := hB5.trans (hb6.mono hB5.size)
        clear hb6 hB5
        go_wp2
        go_ret
        exact ⟨rfl, hB6⟩
    · have g1 : ¬ (t : Int) < (n : Int) := by omega
      have g2 : decide ((t : Int) < (n : Int)) = false := decide_eq_false g1
      clear hk2 hk3
      have q8 : (n : Int) - (t : Int) ≤ 8 := by omega
      go_wp2
      go_loop [13, 14] (fun u j => ∃ s : Nat, s ≤ n - t ∧ u = .int .u64 ((Rsa.bev X t s : Nat) : Int) ∧ j = .int .i64 ((t + s : Nat) : Int)) (fun _ j => n - (intOf j).toNat)
      case atStart => exact ⟨0, Nat.zero_le _, rfl, rfl⟩
      case round =>
        obtain ⟨s, hs, rfl, rfl⟩ := hrel
        by_cases hsn : s < n - t
        · exfalso; omega
        obtain rfl : s = n - t := by omega
        rw [HB.out]
        have q9 : ¬ (t : Int) + ((n - t : Nat) : Int) < (n : Int) := by omega
        go_wp2_with fail
        refine (zzNil_any w2.heap.size _).mono ?_
        rintro e w6 ⟨rfl, hb6⟩
        have hB6 : Below w.heap.size w w6 := hB5.trans (hb6.mono hB5.size)
        clear hb6 hB5
        go_wp2
        go_ret
        exact ⟨rfl, hB6⟩

set_option maxHeartbeats 4000000 in
set_option maxRecDepth 100000 in
theorem main_z_n_big0 (a0 a2 : Option Addr) (n0 c0 n c b0 off0 b off k L U : Nat) (M X : Nat → Nat) (w : World) (hM : ∀ i, M i < 256) (hX : ∀ i, X i < 256) (hv0 : View .u8 w a0 n0 b0 off0 (nb M)) (hv : View .u8 w a2 n b off (nb X)) (hnm : n0 + n ≤ 1048576) (hk : Rsa.Lead n X k)
    (HL : Hid (Rsa.left n X = L)) (HU : Hid (Rsa.word n X 0 = U)) (h0 : L = 0 → U = 0) (hU : U < 18446744073709551616) (h8 : 8 < n - k) :
    Calls Try.prog 6 #[.slice a0 n0 c0, .bool false, .slice a2 n c, .bool true] w fun e w' => e = .returned (.bool true) ∧ Below w.heap.size w w' := by
  obtain ⟨hk1, hk2, hk3⟩ := hk
  have c18 : ∀ w, Calls Try.prog 18 #[.slice a0 n0 c0, .bool false, .slice a2 n c, .bool true] w fun e w' => e = .returned (.bool true) ∧ w = w' := fun w => by
    go_enter Try.func18, Try.ntmps18
    go_wp2
    go_ret
    exact ⟨rfl, rfl⟩
  have hnm' : ¬ (1048576 : Int) < (n0 : Int) + (n : Int) := by omega
  have hn0 : ¬ (1048576 : Int) < (n0 : Int) := by omega
  have hn1 : ¬ (1048576 : Int) < (n : Int) := by omega
  obtain ⟨pj, hpj⟩ := Option.isSome_iff_exists.1 (show (Try.prog.info? 43).isSome = true by kernel_rfl)
  have hal : ∀ (w : World) o, Below w.heap.size w (w.alloc o) := fun w o => (Below.refl _ _).alloc (Nat.le_refl _) _
  go_enter Try.func6, Try.ntmps6
  go_wp2_with fail
  refine (c18 _).mono ?_
  rintro e w' ⟨rfl, rfl⟩
  clear c18
  go_wp2_with fail
  refine (cloneG2_any a0 n0 c0 b0 off0 (nb M) _ (by omega) hv0).mono ?_
  rintro e w1 ⟨am, cm, rfl, hcm, hcm2, hb1, hv1⟩
  have hv' := hv.later hb1 (Nat.le_refl _)
  clear hv hv0
  go_wp2_with fail
  refine (cloneG2_any a2 n c b off (nb X) _ (by omega) hv').mono ?_
  rintro e w2 ⟨ax, cx, rfl, hcx, hcx2, hb2, hv2⟩
  have hv1' := hv1.later hb2 (Nat.le_refl _)
  have hB2 : Below w.heap.size w w2 := hb1.trans (hb2.mono hb1.size)
  clear hv1 hb1 hb2 hv'
  go_wp2_with fail
  obtain ⟨w3, HW3⟩ : ∃ w3, Hid (w2 = w3) := ⟨w2, rfl⟩
  obtain rfl := HW3.out
  have hv3 := hv2
  have hB3 := hB2
  clear HW3 hv1' hv2 hB2
  refine (SetBytes_any w2.heap.size ax n cx w1.heap.size 0 X _ (by omega) hcx (by omega) hX (hv3.later (hal w2 _) (Nat.le_refl _)) (heap_alloc_new w2 _)).mono ?_
  rintro e w4 ⟨rfl, hb4, hs4, hE4⟩
  have hB34 : Below w2.heap.size w2 w4 := (hal w2 _).trans hb4
  rw [HL.out, HU.out] at hE4
  clear hb4 hs4
  go_wp2_with fail
  refine (NegSelf_any w2.heap.size L U _ hE4).mono ?_
  rintro e w5 ⟨rfl, hb5, hs5, hE5⟩
  have hB5 : Below w.heap.size w w5 := hB3.trans ((hB34.trans hb5).mono hB3.size)
  have hv5 := hv3.later (hB34.trans hb5) (Nat.le_refl _)
  clear hb5 hs5 hE4 hB34 hB3 hv3 hal
  have HE : Hid (IsE _ _ _ _ _) := hE5
  clear hE5
  go_wp2
  go_loop [11] (fun i => ∃ t : Nat, t ≤ k ∧ i = .int .i64 t) (fun i => k - (intOf i).toNat)
  case atStart => exact ⟨0, Nat.zero_le _, rfl⟩
  case round =>
    obtain ⟨t, ht, rfl⟩ := hrel
    by_cases hlt : t < k
    · obtain rfl := hv5.1 (by omega)
      have g0 : w5.cell? ⟨w1.heap.size, t, none⟩ = some (.int .u8 0) := by
        have := hv5.2 t (by omega)
        rw [Nat.zero_add] at this
        rw [this]; unfold nb; rw [hk2 t hlt]; rfl
      have g1 : (t : Int) < (n : Int) := by omega
      have g2 : decide ((t : Int) < (n : Int)) = true := decide_eq_true g1
      clear hk2 hk3
      go_wp2
      go_round
      case rel => exact ⟨t + 1, by omega, by go_num⟩
      case measure => simp [intOf]; omega
    obtain rfl : t = k := by omega
    by_cases hkn : t < n
    · obtain rfl := hv5.1 (by omega)
      have g0 : w5.cell? ⟨w1.heap.size, t, none⟩ = some (.int .u8 ((X t : Nat) : Int)) := by
        have := hv5.2 t hkn
        rw [Nat.zero_add] at this
        exact this
      have g1 : (t : Int) < (n : Int) := by omega
      have g2 : decide ((t : Int) < (n : Int)) = true := decide_eq_true g1
      have g3 : (((X t : Nat) : Int) == 0) = false := beq_eq_false_iff_ne.2 (by have := hk3 hkn; omega)
      clear hk2 hk3
      have q8 : ¬ (n : Int) - (t : Int) ≤ 8 := by omega
      go_wp2_with fail
      refine (zzNil_any w2.heap.size _).mono ?_
      rintro e w6 ⟨rfl, hb6⟩
      have hB6 : Below w.heap.size w w6 := hB5.trans (hb6.mono hB5.size)
      clear hb6 hB5
      go_wp2
      go_ret
      exact ⟨rfl, hB6⟩
    · omega

set_option maxHeartbeats 4000000 in
set_option maxRecDepth 100000 in
theorem main_z_p_small0 (a0 a2 : Option Addr) (n0 c0 n c b0 off0 b off k L U : Nat) (M X : Nat → Nat) (w : World) (hM : ∀ i, M i < 256) (hX : ∀ i, X i < 256) (hv0 : View .u8 w a0 n0 b0 off0 (nb M)) (hv : View .u8 w a2 n b off (nb X)) (hnm : n0 + n ≤ 1048576) (hk : Rsa.Lead n X k)
    (HL : Hid (Rsa.left n X = L)) (HU : Hid (Rsa.word n X 0 = U)) (h0 : L = 0 → U = 0) (hU : U < 18446744073709551616) (hL : L ≤ 1) (h8 : n - k ≤ 8) (HB : Hid (Rsa.bev X k (n - k) = U)) :
    Calls Try.prog 6 #[.slice a0 n0 c0, .bool false, .slice a2 n c, .bool false] w fun e w' => e = .returned (.bool true) ∧ Below w.heap.size w w' := by
  obtain ⟨hk1, hk2, hk3⟩ := hk
  have c18 : ∀ w, Calls Try.prog 18 #[.slice a0 n0 c0, .bool false, .slice a2 n c, .bool false] w fun e w' => e = .returned (.bool true) ∧ w = w' := fun w => by
    go_enter Try.func18, Try.ntmps18
    go_wp2
    go_ret
    exact ⟨rfl, rfl⟩
  have hnm' : ¬ (1048576 : Int) < (n0 : Int) + (n : Int) := by omega
  have hn0 : ¬ (1048576 : Int) < (n0 : Int) := by omega
  have hn1 : ¬ (1048576 : Int) < (n : Int) := by omega
  obtain ⟨pj, hpj⟩ := Option.isSome_iff_exists.1 (show (Try.prog.info? 43).isSome = true by kernel_rfl)
  have hal : ∀ (w : World) o, Below w.heap.size w (w.alloc o) := fun w o => (Below.refl _ _).alloc (Nat.le_refl _) _
  go_enter Try.func6, Try.ntmps6
  go_wp2_with fail
  refine (c18 _).mono ?_
  rintro e w' ⟨rfl, rfl⟩
  clear c18
  go_wp2_with fail
  refine (cloneG2_any a0 n0 c0 b0 off0 (nb M) _ (by omega) hv0).mono ?_
  rintro e w1 ⟨am, cm, rfl, hcm, hcm2, hb1, hv1⟩
  have hv' := hv.later hb1 (Nat.le_refl _)
  clear hv hv0
  go_wp2_with fail
  refine (cloneG2_any a2 n c b off (nb X) _ (by omega) hv').mono ?_
  rintro e w2 ⟨ax, cx, rfl, hcx, hcx2, hb2, hv2⟩
  have hv1' := hv1.later hb2 (Nat.le_refl _)
  have hB2 : Below w.heap.size w w2 := hb1.trans (hb2.mono hb1.size)
  clear hv1 hb1 hb2 hv'
  go_wp2_with fail
  obtain ⟨w3, HW3⟩ : ∃ w3, Hid (w2 = w3) := ⟨w2, rfl⟩
  obtain rfl := HW3.out
  have hv3 := hv2
  have hB3 := hB2
  clear HW3 hv1' hv2 hB2
  refine (SetBytes_any w2.heap.size ax n cx w1.heap.size 0 X _ (by omega) hcx (by omega) hX (hv3.later (hal w2 _) (Nat.le_refl _)) (heap_alloc_new w2 _)).mono ?_
  rintro e w4 ⟨rfl, hb4, hs4, hE4⟩
  have hB34 : Below w2.heap.size w2 w4 := (hal w2 _).trans hb4
  rw [HL.out, HU.out] at hE4
  clear hb4 hs4
  go_wp2_with fail
  have hB5 : Below w.heap.size w w4 := hB3.trans (hB34.mono hB3.size)
  have hv5 := hv3.later hB34 (Nat.le_refl _)
  have hE5 := hE4
  clear hE4 hB34 hB3 hv3 hal
  have HE : Hid (IsE _ _ _ _ _) := hE5
  clear hE5
  go_wp2
  go_loop [11] (fun i => ∃ t : Nat, t ≤ k ∧ i = .int .i64 t) (fun i => k - (intOf i).toNat)
  case atStart => exact ⟨0, Nat.zero_le _, rfl⟩
  case round =>
    obtain ⟨t, ht, rfl⟩ := hrel
    by_cases hlt : t < k
    · obtain rfl := hv5.1 (by omega)
      have g0 : w4.cell? ⟨w1.heap.size, t, none⟩ = some (.int .u8 0) := by
        have := hv5.2 t (by omega)
        rw [Nat.zero_add] at this
        rw [this]; unfold nb; rw [hk2 t hlt]; rfl
      have g1 : (t : Int) < (n : Int) := by omega
      have g2 : decide ((t : Int) < (n : Int)) = true := decide_eq_true g1
      clear hk2 hk3
      go_wp2
      go_round
      case rel => exact ⟨t + 1, by omega, by go_num⟩
      case measure => simp [intOf]; omega
    obtain rfl : t = k := by omega
    by_cases hkn : t < n
    · obtain rfl := hv5.1 (by omega)
      have g0 : w4.cell? ⟨w1.heap.size, t, none⟩ = some (.int .u8 ((X t : Nat) : Int)) := by
        have := hv5.2 t hkn
        rw [Nat.zero_add] at this
        exact this
      have g1 : (t : Int) < (n : Int) := by omega
      have g2 : decide ((t : Int) < (n : Int)) = true := decide_eq_true g1
      have g3 : (((X t : Nat) : Int) == 0) = false := beq_eq_false_iff_ne.2 (by have := hk3 hkn; omega)
      clear hk2 hk3
      have q8 : (n : Int) - (t : Int) ≤ 8 := by omega
      go_wp2
      go_loop [13, 14] (fun u j => ∃ s : Nat, s ≤ n - t ∧ u = .int .u64 ((Rsa.bev X t s : Nat) : Int) ∧ j = .int .i64 ((t + s : Nat) : Int)) (fun _ j => n - (intOf j).toNat)
      case atStart => exact ⟨0, Nat.zero_le _, rfl, rfl⟩
      case round =>
        obtain ⟨s, hs, rfl, rfl⟩ := hrel
        by_cases hsn : s < n - t
        · skip
          have g0 : w4.cell? ⟨w1.heap.size, t + s, none⟩ = some (.int .u8 ((X (t + s) : Nat) : Int)) := by
            have := hv5.2 (t + s) (by omega)
            rw [Nat.zero_add] at this
            exact this
          have g1 : (t : Int) + (s : Int) < (n : Int) := by omega
          have hxr : ((X (t + s) : Nat) : Int) < 256 := by have := hX (t + s); omega
          have HO : Hid (bits .or .u64 (IntKind.u64.wrap (((Rsa.bev X t s : Nat) : Int) * 256)) ((X (t + s) : Nat) : Int) = ((Rsa.bev X t (s + 1) : Nat) : Int)) := by
            have h := (Rsa.shl_byte s (Rsa.bev X t s) (X (t + s)) (by omega) (Rsa.bev_lt X hX t s) (hX _)).1
            show _ = _
            rw [h]; rfl
          go_wp2
          go_round
          case rel => exact ⟨s + 1, by omega, congrArg (Value.int .u64) HO.out, by go_num⟩
          case measure => simp [intOf]; omega
        obtain rfl : s = n - t := by omega
        rw [HB.out]
        have q9 : ¬ (t : Int) + ((n - t : Nat) : Int) < (n : Int) := by omega
        go_wp2_with fail
        refine (zzNil_any w2.heap.size _).mono ?_
        rintro e w6 ⟨rfl, hb6⟩
        have hB6 : Below w.heap.size w w6 := hB5.trans (hb6.mono hB5.size)
        clear hb6 hB5
        go_wp2
        go_ret
        exact ⟨rfl, hB6⟩
    · have g1 : ¬ (t : Int) < (n : Int) := by omega
      have g2 : decide ((t : Int) < (n : Int)) = false := decide_eq_false g1
      clear hk2 hk3
      have q8 : (n : Int) - (t : Int) ≤ 8 := by omega
      go_wp2
      go_loop [13, 14] (fun u j => ∃ s : Nat, s ≤ n - t ∧ u = .int .u64 ((Rsa.bev X t s : Nat) : Int) ∧ j = .int .i64 ((t + s : Nat) : Int)) (fun _ j => n - (intOf j).toNat)
      case atStart => exact ⟨0, Nat.zero_le _, rfl, rfl⟩
      case round =>
        obtain ⟨s, hs, rfl, rfl⟩ := hrel
        by_cases hsn : s < n - t
        · exfalso; omega
        obtain rfl : s = n - t := by omega
        rw [HB.out]
        have q9 : ¬ (t : Int) + ((n - t : Nat) : Int) < (n : Int) := by omega
        go_wp2_with fail
        refine (zzNil_any w2.heap.size _).mono ?_
        rintro e w6 ⟨rfl, hb6⟩
        have hB6 : Below w.heap.size w w6 := hB5.trans (hb6.mono hB5.size)
        clear hb6 hB5
        go_wp2
        go_ret
        exact ⟨rfl, hB6⟩

set_option maxHeartbeats 4000000 in
set_option maxRecDepth 100000 in
theorem main_z_p_big0 (a0 a2 : Option Addr) (n0 c0 n c b0 off0 b off k L U : Nat) (M X : Nat → Nat) (w : World) (hM : ∀ i, M i < 256) (hX : ∀ i, X i < 256) (hv0 : View .u8 w a0 n0 b0 off0 (nb M)) (hv : View .u8 w a2 n b off (nb X)) (hnm : n0 + n ≤ 1048576) (hk : Rsa.Lead n X k)
    (HL : Hid (Rsa.left n X = L)) (HU : Hid (Rsa.word n X 0 = U)) (h0 : L = 0 → U = 0) (hU : U < 18446744073709551616) (h8 : 8 < n - k) :
    Calls Try.prog 6 #[.slice a0 n0 c0, .bool false, .slice a2 n c, .bool false] w fun e w' => e = .returned (.bool true) ∧ Below w.heap.size w w' := by
  obtain ⟨hk1, hk2, hk3⟩ := hk
  have c18 : ∀ w, Calls Try.prog 18 #[.slice a0 n0 c0, .bool false, .slice a2 n c, .bool false] w fun e w' => e = .returned (.bool true) ∧ w = w' := fun w => by
    go_enter Try.func18, Try.ntmps18
    go_wp2
    go_ret
    exact ⟨rfl, rfl⟩
  have hnm' : ¬ (1048576 : Int) < (n0 : Int) + (n : Int) := by omega
  have hn0 : ¬ (1048576 : Int) < (n0 : Int) := by omega
  have hn1 : ¬ (1048576 : Int) < (n : Int) := by omega
  obtain ⟨pj, hpj⟩ := Option.isSome_iff_exists.1 (show (Try.prog.info? 43).isSome = true by kernel_rfl)
  have hal : ∀ (w : World) o, Below w.heap.size w (w.alloc o) := fun w o => (Below.refl _ _).alloc (Nat.le_refl _) _
  go_enter Try.func6, Try.ntmps6
  go_wp2_with fail
  refine (c18 _).mono ?_
  rintro e w' ⟨rfl, rfl⟩
  clear c18
  go_wp2_with fail
  refine (cloneG2_any a0 n0 c0 b0 off0 (nb M) _ (by omega) hv0).mono ?_
  rintro e w1 ⟨am, cm, rfl, hcm, hcm2, hb1, hv1⟩
  have hv' := hv.later hb1 (Nat.le_refl _)
  clear hv hv0
  go_wp2_with fail
  refine (cloneG2_any a2 n c b off (nb X) _ (by omega) hv').mono ?_
  rintro e w2 ⟨ax, cx, rfl, hcx, hcx2, hb2, hv2⟩
  have hv1' := hv1.later hb2 (Nat.le_refl _)
  have hB2 : Below w.heap.size w w2 := hb1.trans (hb2.mono hb1.size)
  clear hv1 hb1 hb2 hv'
  go_wp2_with fail
  obtain ⟨w3, HW3⟩ : ∃ w3, Hid (w2 = w3) := ⟨w2, rfl⟩
  obtain rfl := HW3.out
  have hv3 := hv2
  have hB3 := hB2
  clear HW3 hv1' hv2 hB2
  refine (SetBytes_any w2.heap.size ax n cx w1.heap.size 0 X _ (by omega) hcx (by omega) hX (hv3.later (hal w2 _) (Nat.le_refl _)) (heap_alloc_new w2 _)).mono ?_
  rintro e w4 ⟨rfl, hb4, hs4, hE4⟩
  have hB34 : Below w2.heap.size w2 w4 := (hal w2 _).trans hb4
  rw [HL.out, HU.out] at hE4
  clear hb4 hs4
  go_wp2_with fail
  have hB5 : Below w.heap.size w w4 := hB3.trans (hB34.mono hB3.size)
  have hv5 := hv3.later hB34 (Nat.le_refl _)
  have hE5 := hE4
  clear hE4 hB34 hB3 hv3 hal
  have HE : Hid (IsE _ _ _ _ _) := hE5
  clear hE5
  go_wp2
  go_loop [11] (fun i => ∃ t : Nat, t ≤ k ∧ i = .int .i64 t) (fun i => k - (intOf i).toNat)
  case atStart => exact ⟨0, Nat.zero_le _, rfl⟩
  case round =>
    obtain ⟨t, ht, rfl⟩ := hrel
    by_cases hlt : t < k
    · obtain rfl := hv5.1 (by omega)
      have g0 : w4.cell? ⟨w1.heap.size, t, none⟩ = some (.int .u8 0) := by
        have := hv5.2 t (by omega)
        rw [Nat.zero_add] at this
        rw [this]; unfold nb; rw [hk2 t hlt]; rfl
      have g1 : (t : Int) < (n : Int) := by omega
      have g2 : decide ((t : Int) < (n : Int)) = true := decide_eq_true g1
      clear hk2 hk3
      go_wp2
      go_round
      case rel => exact ⟨t + 1, by omega, by go_num⟩
      case measure => simp [intOf]; omega
    obtain rfl : t = k := by omega
    by_cases hkn : t < n
    · obtain rfl := hv5.1 (by omega)
      have g0 : w4.cell? ⟨w1.heap.size, t, none⟩ = some (.int .u8 ((X t : Nat) : Int)) := by
        have := hv5.2 t hkn
        rw [Nat.zero_add] at this
        exact this
      have g1 : (t : Int) < (n : Int) := by omega
      have g2 : decide ((t : Int) < (n : Int)) = true := decide_eq_true g1
      have g3 : (((X t : Nat) : Int) == 0) = false := beq_eq_false_iff_ne.2 (by have := hk3 hkn; omega)
      clear hk2 hk3
      have q8 : ¬ (n : Int) - (t : Int) ≤ 8 := by omega
      go_wp2_with fail
      refine (zzNil_any w2.heap.size _).mono ?_
      rintro e w6 ⟨rfl, hb6⟩
      have hB6 : Below w.heap.size w w6 := hB5.trans (hb6.mono hB5.size)
      clear hb6 hB5
      go_wp2
      go_ret
      exact ⟨rfl, hB6⟩
    · omega

end Go.Proofs.Qxb6003732a
