/-
  FnRSAKeyKeepsExponent past its early returns.
-/
import Derived.Test.Qxb6003732aRsaE
namespace Go.Proofs.Qxb6003732a
open Go.RowKit

theorem lead_ex (n : Nat) (X : Nat → Nat) : ∃ k, Rsa.Lead n X k := by
  have : ∀ m, m ≤ n → (∃ k, Rsa.Lead n X k) ∨ ∀ i, i < m → X i = 0 := by
    intro m
    induction m with
    | zero => exact fun _ => .inr fun i hi => by omega
    | succ m ih =>
      intro hm
      rcases ih (by omega) with h | h
      · exact .inl h
      · by_cases hz : X m = 0
        · refine .inr fun i hi => ?_
          by_cases e : i = m
          · rw [e]; exact hz
          · exact h i (by omega)
        · exact .inl ⟨m, by omega, h, fun _ => hz⟩
  rcases this n (Nat.le_refl _) with h | h
  · exact h
  · exact ⟨n, Nat.le_refl _, h, fun h => by omega⟩

theorem fits_neg (L U : Nat) (hL : L ≤ 1) (h0 : L = 0 → U = 0) : fitsB (decide (0 < L)) L U = decide (U ≤ 9223372036854775808) := by
  unfold fitsB
  rw [decide_eq_true hL]
  by_cases h : L = 0
  · rw [h0 h]; simp
  · rw [decide_eq_true (show 0 < L by omega)]
    by_cases h1 : U < 9223372036854775808
    · rw [decide_eq_true h1, decide_eq_true (show U ≤ 9223372036854775808 by omega)]; rfl
    · by_cases h2 : U = 9223372036854775808
      · rw [decide_eq_true h2, decide_eq_true (show U ≤ 9223372036854775808 by omega)]; simp
      · rw [decide_eq_false h1, decide_eq_false h2, decide_eq_false (show ¬ U ≤ 9223372036854775808 by omega)]; rfl
theorem fits_pos (L U : Nat) (hL : L ≤ 1) : fitsB false L U = decide (U ≤ 9223372036854775807) := by
  unfold fitsB
  rw [decide_eq_true hL]
  by_cases h1 : U < 9223372036854775808
  · rw [decide_eq_true h1, decide_eq_true (show U ≤ 9223372036854775807 by omega)]; rfl
  · rw [decide_eq_false h1, decide_eq_false (show ¬ U ≤ 9223372036854775807 by omega)]; rfl
theorem fits_big (g : Bool) (L U : Nat) (hL : 2 ≤ L) : fitsB g L U = false := by
  unfold fitsB
  rw [decide_eq_false (show ¬ L ≤ 1 by omega)]; rfl

theorem want_neg (L U : Nat) (h0 : L = 0 → U = 0) : i64Of (decide (0 < L)) U = wrap64 (IntKind.u64.wrap (-(U : Int))) := by
  unfold i64Of
  rw [IntKind.wrap_u64]
  by_cases h : L = 0
  · rw [h0 h, if_neg (by simp [h])]; rfl
  · rw [if_pos (decide_eq_true (by omega))]
    unfold wrap64; omega
theorem want_pos (U : Nat) (h : U ≤ 9223372036854775807) : i64Of false U = (U : Int) := by
  unfold i64Of; rw [if_neg (by decide)]; unfold wrap64; omega

set_option maxHeartbeats 4000000 in
set_option maxRecDepth 100000 in
theorem main_m_n_yes (a0 a2 : Option Addr) (n0 c0 n c b0 off0 b off k L U : Nat) (M X : Nat → Nat) (w : World) (hM : ∀ i, M i < 256) (hX : ∀ i, X i < 256) (hv0 : View .u8 w a0 n0 b0 off0 (nb M)) (hv : View .u8 w a2 n b off (nb X)) (hnm : n0 + n ≤ 1048576) (hk : Rsa.Lead n X k)
    (HL : Hid (Rsa.left n X = L)) (HU : Hid (Rsa.word n X 0 = U)) (h0 : L = 0 → U = 0) (hU : U < 18446744073709551616) (hL : L ≤ 1) (h8 : n - k ≤ 8) (HB : Hid (Rsa.bev X k (n - k) = U)) (hf : fitsB (decide (0 < L)) L U = true) :
    Calls Try.prog 6 #[.slice a0 n0 c0, .bool true, .slice a2 n c, .bool true] w fun e w' => e = .returned (.bool true) ∧ Below w.heap.size w w' := by
  obtain ⟨hk1, hk2, hk3⟩ := hk
  have hf1 : decide (U ≤ 9223372036854775808) = true := by rw [← fits_neg L U hL h0]; exact hf
  have hf3 : decide ((U : Int) ≤ 9223372036854775808) = true := by rw [← hf1]; exact decide_eq_decide.2 (by omega)
  have hf2 := of_decide_eq_true hf1
  have HWn : Hid (i64Of (decide (0 < L)) U = wrap64 (IntKind.u64.wrap (-(U : Int)))) := want_neg L U h0
  have HF : Hid (fitsB (decide (0 < L)) L U = true) := hf
  clear hf
  have c18 : ∀ w, Calls Try.prog 18 #[.slice a0 n0 c0, .bool true, .slice a2 n c, .bool true] w fun e w' => e = .returned (.bool true) ∧ w = w' := fun w => by
    go_enter Try.func18, Try.ntmps18
    go_wp2
    go_ret
    exact ⟨rfl, rfl⟩
  have hnm' : ¬ (1048576 : Int) < (n0 : Int) + (n : Int) := by omega
  have hn0 : ¬ (1048576 : Int) < (n0 : Int) := by omega
  have hn1 : ¬ (1048576 : Int) < (n : Int) := by omega
  obtain ⟨pj, hpj⟩ := Option.isSome_iff_exists.1 (show (Try.prog.info? 43).isSome = true by kernel_rfl)
  have hal : ∀ (w : World) o, Below w.heap.size w (w.alloc o) := fun w o => (Below.refl _ _).alloc (Nat.le_refl _) _
  go_enter Try.func6, Try.ntmps6
  go_wp2_with fail
  refine (c18 _).mono ?_
  rintro e w' ⟨rfl, rfl⟩
  clear c18
  go_wp2_with fail
  refine (cloneG2_any a0 n0 c0 b0 off0 (nb M) _ (by omega) hv0).mono ?_
  rintro e w1 ⟨am, cm, rfl, hcm, hcm2, hb1, hv1⟩
  have hv' := hv.later hb1 (Nat.le_refl _)
  clear hv hv0
  go_wp2_with fail
  refine (cloneG2_any a2 n c b off (nb X) _ (by omega) hv').mono ?_
  rintro e w2 ⟨ax, cx, rfl, hcx, hcx2, hb2, hv2⟩
  have hv1' := hv1.later hb2 (Nat.le_refl _)
  have hB2 : Below w.heap.size w w2 := hb1.trans (hb2.mono hb1.size)
  clear hv1 hb1 hb2 hv'
  go_wp2_with fail
  refine (SetBytes_any w2.heap.size am n0 cm w.heap.size 0 M _ (by omega) hcm (by omega) hM (hv1'.later (hal w2 _) (Nat.le_refl _)) (heap_alloc_new w2 _)).mono ?_
  rintro e w3 ⟨rfl, hb3, hs3, _⟩
  have hB23 : Below w2.heap.size w2 w3 := (hal w2 _).trans hb3
  have hv3 := hv2.later hB23 (Nat.le_refl _)
  have hB3 : Below w.heap.size w w3 := hB2.trans (hB23.mono hB2.size)
  have hpp := fun w => run_eql_ptr_same (P := Try.prog) w (tp := 39) (te := 43) ⟨w2.heap.size, 0, none⟩ Try.underlying39 hpj
  clear hb3 hs3 hB23 hB2 hv1' hv2
  go_wp2_with fail
  refine (SetBytes_any w3.heap.size ax n cx w1.heap.size 0 X _ (by omega) hcx (by omega) hX (hv3.later (hal w3 _) (Nat.le_refl _)) (heap_alloc_new w3 _)).mono ?_
  rintro e w4 ⟨rfl, hb4, hs4, hE4⟩
  have hB34 : Below w3.heap.size w3 w4 := (hal w3 _).trans hb4
  rw [HL.out, HU.out] at hE4
  clear hb4 hs4
  go_wp2_with fail
  refine (NegSelf_any w3.heap.size L U _ hE4).mono ?_
  rintro e w5 ⟨rfl, hb5, hs5, hE5⟩
  have hB5 : Below w.heap.size w w5 := hB3.trans ((hB34.trans hb5).mono hB3.size)
  have hv5 := hv3.later (hB34.trans hb5) (Nat.le_refl _)
  clear hb5 hs5 hE4 hB34 hB3 hv3 hal
  have HE : Hid (IsE _ _ _ _ _) := hE5
  clear hE5
  go_wp2
  go_loop [11] (fun i => ∃ t : Nat, t ≤ k ∧ i = .int .i64 t) (fun i => k - (intOf i).toNat)
  case atStart => exact ⟨0, Nat.zero_le _, rfl⟩
  case round =>
    obtain ⟨t, ht, rfl⟩ := hrel
    by_cases hlt : t < k
    · obtain rfl := hv5.1 (by omega)
      have g0 : w5.cell? ⟨w1.heap.size, t, none⟩ = some (.int .u8 0) := by
        have := hv5.2 t (by omega)
        rw [Nat.zero_add] at this
        rw [this]; unfold nb; rw [hk2 t hlt]; rfl
      have g1 : (t : Int) < (n : Int) := by omega
      have g2 : decide ((t : Int) < (n : Int)) = true := decide_eq_true g1
      clear hk2 hk3
      go_wp2
      go_round
      case rel => exact ⟨t + 1, by omega, by go_num⟩
      case measure => simp [intOf]; omega
    obtain rfl : t = k := by omega
    by_cases hkn : t < n
    · obtain rfl := hv5.1 (by omega)
      have g0 : w5.cell? ⟨w1.heap.size, t, none⟩ = some (.int .u8 ((X t : Nat) : Int)) := by
        have := hv5.2 t hkn
        rw [Nat.zero_add] at this
        exact this
      have g1 : (t : Int) < (n : Int) := by omega
      have g2 : decide ((t : Int) < (n : Int)) = true := decide_eq_true g1
      have g3 : (((X t : Nat) : Int) == 0) = false := beq_eq_false_iff_ne.2 (by have := hk3 hkn; omega)
      clear hk2 hk3
      have q8 : (n : Int) - (t : Int) ≤ 8 := by omega
      go_wp2
      go_loop [13, 14] (fun u j => ∃ s : Nat, s ≤ n - t ∧ u = .int .u64 ((Rsa.bev X t s : Nat) : Int) ∧ j = .int .i64 ((t + s : Nat) : Int)) (fun _ j => n - (intOf j).toNat)
      case atStart => exact ⟨0, Nat.zero_le _, rfl, rfl⟩
      case round =>
        obtain ⟨s, hs, rfl, rfl⟩ := hrel
        by_cases hsn : s < n - t
        · skip
          have g0 : w5.cell? ⟨w1.heap.size, t + s, none⟩ = some (.int .u8 ((X (t + s) : Nat) : Int)) := by
            have := hv5.2 (t + s) (by omega)
            rw [Nat.zero_add] at this
            exact this
          have g1 : (t : Int) + (s : Int) < (n : Int) := by omega
          have hxr : ((X (t + s) : Nat) : Int) < 256 := by have := hX (t + s); omega
          have HO : Hid (bits .or .u64 (IntKind.u64.wrap (((Rsa.bev X t s : Nat) : Int) * 256)) ((X (t + s) : Nat) : Int) = ((Rsa.bev X t (s + 1) : Nat) : Int)) := by
            have h := (Rsa.shl_byte s (Rsa.bev X t s) (X (t + s)) (by omega) (Rsa.bev_lt X hX t s) (hX _)).1
            show _ = _
            rw [h]; rfl
          go_wp2
          go_round
          case rel => exact ⟨s + 1, by omega, congrArg (Value.int .u64) HO.out, by go_num⟩
          case measure => simp [intOf]; omega
        obtain rfl : s = n - t := by omega
        rw [HB.out]
        have q9 : ¬ (t : Int) + ((n - t : Nat) : Int) < (n : Int) := by omega
        go_wp2_with fail
        refine (zzYes_any w2.heap.size w3.heap.size L U (decide (0 < L)) _ hU HE.out HF.out).mono ?_
        rintro e w6 ⟨kk, rfl, hb6, hk6⟩
        have d0 : w6.cell? ⟨kk, 0, none⟩ = some (.pointer (some ⟨w2.heap.size, 0, none⟩)) := by rw [cell_of_row _ _ _ _ _ _ hk6]; rfl
        have d1 : w6.cell? ⟨kk, 1, none⟩ = some (.int .i64 (wrap64 (IntKind.u64.wrap (-(U : Int))))) := by rw [cell_of_row _ _ _ _ _ _ hk6, ← HWn.out]; rfl
        have hB6 : Below w.heap.size w w6 := hB5.trans (hb6.mono hB5.size)
        clear hk6 hb6 hB5
        go_wp2
        go_ret
        exact ⟨rfl, hB6⟩
    · have g1 : ¬ (t : Int) < (n : Int) := by omega
      have g2 : decide ((t : Int) < (n : Int)) = false := decide_eq_false g1
      clear hk2 hk3
      have q8 : (n : Int) - (t : Int) ≤ 8 := by omega
      go_wp2
      go_loop [13, 14] (fun u j => ∃ s : Nat, s ≤ n - t ∧ u = .int .u64 ((Rsa.bev X t s : Nat) : Int) ∧ j = .int .i64 ((t + s : Nat) : Int)) (fun _ j => n - (intOf j).toNat)
      case atStart => exact ⟨0, Nat.zero_le _, rfl, rfl⟩
      case round =>
        obtain ⟨s, hs, rfl, rfl⟩ := hrel
        by_cases hsn : s < n - t
        · exfalso; omega
        obtain rfl : s = n - t := by omega
        rw [HB.out]
        have q9 : ¬ (t : Int) + ((n - t : Nat) : Int) < (n : Int) := by omega
        go_wp2_with fail
        refine (zzYes_any w2.heap.size w3.heap.size L U (decide (0 < L)) _ hU HE.out HF.out).mono ?_
        rintro e w6 ⟨kk, rfl, hb6, hk6⟩
        have d0 : w6.cell? ⟨kk, 0, none⟩ = some (.pointer (some ⟨w2.heap.size, 0, none⟩)) := by rw [cell_of_row _ _ _ _ _ _ hk6]; rfl
        have d1 : w6.cell? ⟨kk, 1, none⟩ = some (.int .i64 (wrap64 (IntKind.u64.wrap (-(U : Int))))) := by rw [cell_of_row _ _ _ _ _ _ hk6, ← HWn.out]; rfl
        have hB6 : Below w.heap.size w w6 := hB5.trans (hb6.mono hB5.size)
        clear hk6 hb6 hB5
        go_wp2
        go_ret
        exact ⟨rfl, hB6⟩

end Go.Proofs.Qxb6003732a
