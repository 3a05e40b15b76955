/-
  FnRSAKeyKeepsExponent past its early returns: the cases together.
-/
import Derived.Test.Qxb6003732aRsaG
import Derived.Test.Qxb6003732aRsaH
namespace Go.Proofs.Qxb6003732a
open Go.RowKit

theorem rsaMain (a0 a2 : Option Addr) (n0 c0 n c b0 off0 b off : Nat) (M X : Nat → Nat) (hm neg : Bool) (w : World) (hM : ∀ i, M i < 256) (hX : ∀ i, X i < 256) (hv0 : View .u8 w a0 n0 b0 off0 (nb M)) (hv : View .u8 w a2 n b off (nb X)) (hnm : n0 + n ≤ 1048576) :
    Calls Try.prog 6 #[.slice a0 n0 c0, .bool hm, .slice a2 n c, .bool neg] w fun e w' => e = .returned (.bool true) ∧ Below w.heap.size w w' := by
  obtain ⟨k, hk⟩ := lead_ex n X
  obtain ⟨L, HL⟩ : ∃ L, Hid (Rsa.left n X = L) := ⟨_, rfl⟩
  obtain ⟨U, HU⟩ : ∃ U, Hid (Rsa.word n X 0 = U) := ⟨_, rfl⟩
  have h0 : L = 0 → U = 0 := fun h => by rw [← HU.out]; exact left_zero n X (HL.out.trans h)
  have hU : U < 18446744073709551616 := by rw [← HU.out]; exact Rsa.word_lt n X hX 0
  by_cases h8 : n - k ≤ 8
  · have hs := Rsa.small hk h8
    have hL : L ≤ 1 := by rw [← HL.out]; exact hs.1
    have HB : Hid (Rsa.bev X k (n - k) = U) := hs.2.symm.trans HU.out
    cases hm with
    | true =>
      cases neg with
      | true =>
        cases hf : fitsB (decide (0 < L)) L U with
        | true => exact main_m_n_yes a0 a2 n0 c0 n c b0 off0 b off k L U M X w hM hX hv0 hv hnm hk HL HU h0 hU hL h8 HB hf
        | false => exact main_m_n_not a0 a2 n0 c0 n c b0 off0 b off k L U M X w hM hX hv0 hv hnm hk HL HU h0 hU hL h8 HB hf
      | false =>
        cases hf : fitsB false L U with
        | true => exact main_m_p_yes a0 a2 n0 c0 n c b0 off0 b off k L U M X w hM hX hv0 hv hnm hk HL HU h0 hU hL h8 HB hf
        | false => exact main_m_p_not a0 a2 n0 c0 n c b0 off0 b off k L U M X w hM hX hv0 hv hnm hk HL HU h0 hU hL h8 HB hf
    | false =>
      cases neg with
      | true => exact main_z_n_small0 a0 a2 n0 c0 n c b0 off0 b off k L U M X w hM hX hv0 hv hnm hk HL HU h0 hU hL h8 HB
      | false => exact main_z_p_small0 a0 a2 n0 c0 n c b0 off0 b off k L U M X w hM hX hv0 hv hnm hk HL HU h0 hU hL h8 HB
  · have hb : 2 ≤ L := by rw [← HL.out]; exact Rsa.big hk (by omega)
    cases hm with
    | true =>
      cases neg with
      | true => exact main_m_n_big a0 a2 n0 c0 n c b0 off0 b off k L U M X w hM hX hv0 hv hnm hk HL HU h0 hU (by omega) (fits_big _ L U hb)
      | false => exact main_m_p_big a0 a2 n0 c0 n c b0 off0 b off k L U M X w hM hX hv0 hv hnm hk HL HU h0 hU (by omega) (fits_big _ L U hb)
    | false =>
      cases neg with
      | true => exact main_z_n_big0 a0 a2 n0 c0 n c b0 off0 b off k L U M X w hM hX hv0 hv hnm hk HL HU h0 hU (by omega)
      | false => exact main_z_p_big0 a0 a2 n0 c0 n c b0 off0 b off k L U M X w hM hX hv0 hv hnm hk HL HU h0 hU (by omega)
end Go.Proofs.Qxb6003732a
