/-
  The walks of (Prefix).exact, ZZExact.
-/
import Derived.Test.Qxb6003732aTruncB
namespace Go.Proofs.Qxb6003732a
open Go.RowKit

/-- What exact answers: the length is not negative, the bytes are as many as it asks, the bits past it are zero. -/
def exactOf (len : Int) (n : Nat) (X : Nat → Nat) : Bool := decide (0 ≤ len) && (decide ((n : Int) = (len + 7) / 8) && Tr.exactB len.toNat X)

theorem and_low' (u Y : Nat) (hu : u < 8) (hY : Y < 256) : bits .and .u8 (Y : Int) (((2 : Int) ^ u - 1) % 256) = ((Y % 2 ^ u : Nat) : Int) := by
  have hp : 0 < 2 ^ u := Nat.two_pow_pos u
  have hp2 : 2 ^ u < 256 := by
    have : ∀ u, u < 8 → 2 ^ u < 256 := by decide
    exact this u hu
  have e1 : ((2 ^ u : Nat) : Int) = (2 : Int) ^ u := by simp
  rw [show ((2 : Int) ^ u - 1) % 256 = (2 : Int) ^ u - 1 by omega]
  exact Tr.and_low u Y hu hY

theorem exactOf_last (l p : Nat) (X : Nat → Nat) (hX : ∀ i, X i < 256) (hz : ¬ l % 8 = 0) (hp : p = l / 8) :
    exactOf (l : Int) (p + 1) X = (bits .and .u8 ((X p : Nat) : Int) (((2 : Int) ^ ((p + 1) * 8 - l) - 1) % 256) == 0) := by
  have hu : (p + 1) * 8 - l = 8 - l % 8 := by omega
  rw [hu, and_low' _ _ (by omega) (hX p)]
  unfold exactOf Tr.exactB
  rw [Int.toNat_natCast, decide_eq_true (show (0 : Int) ≤ (l : Int) by omega), decide_eq_true (show ((p + 1 : Nat) : Int) = ((l : Int) + 7) / 8 by omega), decide_eq_false hz, ← hp]
  simp only [Bool.true_and, Bool.false_or]
  by_cases h : X p % 2 ^ (8 - l % 8) = 0
  · rw [decide_eq_true h, h]; rfl
  · rw [decide_eq_false h]
    symm
    rw [beq_eq_false_iff_ne]
    omega

set_option maxHeartbeats 1000000 in
theorem exact_any (fa : Option Addr) (fl fc : Nat) (a : Option Addr) (n c b off : Nat) (len : Int) (X : Nat → Nat) (w : World) (hn : n ≤ 2000000) (hl0 : -16000000 ≤ len) (hl : len ≤ 16000000) (hX : ∀ i, X i < 256) (hv : View .u8 w a n b off (nb X)) :
    Calls Try.prog 24 #[.agg #[.slice fa fl fc, .slice a n c, .int .i64 len]] w fun e w' => e = .returned (.bool (exactOf len n X)) ∧ Below w.heap.size w w' := by
  by_cases h0 : len < 0
  · have HE : Hid (exactOf len n X = false) := by
      show _ = _
      unfold exactOf; rw [decide_eq_false (by omega)]; rfl
    have h0' : decide (len < 0) = true := decide_eq_true h0
    go_enter Try.func24, Try.ntmps24
    go_wp2
    go_ret
    exact ⟨by rw [HE.out]; rfl, (Below.refl _ _).alloc (Nat.le_refl _) _⟩
  by_cases h1 : (n : Int) = (len + 7) / 8
  · obtain ⟨l, rfl⟩ := Int.eq_ofNat_of_zero_le (show 0 ≤ len by omega)
    have hnl : n = (l + 7) / 8 := by omega
    by_cases hz : l % 8 = 0
    · have HE : Hid (exactOf (l : Int) n X = true) := by
        show _ = _
        unfold exactOf Tr.exactB; rw [Int.toNat_natCast, decide_eq_true hz, decide_eq_true h1, decide_eq_true (by omega)]; rfl
      have hu : ((n : Int) * 8 - (l : Int) == 0) = true := by rw [beq_iff_eq]; omega
      have h1' : ((n : Int) != ((l : Int) + 7) / 8) = false := by rw [← h1]; exact bne_self_eq_false _
      have h0' : decide ((l : Int) < 0) = false := decide_eq_false h0
      clear h1 hnl
      go_enter Try.func24, Try.ntmps24
      go_wp2
      go_quiet (fail)
      go_wp2
      go_ret
      exact ⟨by rw [HE.out]; rfl, below_drewN ((Below.refl _ _).alloc (Nat.le_refl _) _) _⟩
    · obtain ⟨p, rfl⟩ : ∃ p, n = p + 1 := ⟨n - 1, by omega⟩
      have hp : p = l / 8 := by omega
      obtain rfl := hv.1 (by omega)
      have g0 : ∀ o, (w.alloc o).cell? ⟨b, off + p, none⟩ = some (.int .u8 ((X p : Nat) : Int)) := fun o =>
        (((Below.refl w.heap.size w).alloc (Nat.le_refl _) o).cell (p := ⟨b, off + p, none⟩) (World.block_lt_of_cell? _ _ (hv.2 p (by omega)))).trans (hv.2 p (by omega))
      have h0' : decide ((l : Int) < 0) = false := decide_eq_false h0
      have h1' : ((p : Int) + 1 != ((l : Int) + 7) / 8) = false := by rw [show (p : Int) + 1 = ((p + 1 : Nat) : Int) by simp, ← h1]; exact bne_self_eq_false _
      have hu : (((p : Int) + 1) * 8 - (l : Int) == 0) = false := beq_eq_false_iff_ne.2 (by omega)
      have hp1 : (p : Int) * 8 < (l : Int) := by omega
      have hp2 : (l : Int) < ((p : Int) + 1) * 8 := by omega
      have HP : Hid (p = l / 8) := hp
      have HN : Hid (((p + 1 : Nat) : Int) = ((l : Int) + 7) / 8) := h1
      clear h1 hnl hp
      go_enter Try.func24, Try.ntmps24
      go_wp2
      go_quiet (fail)
      go_wp2
      go_ret
      exact ⟨by rw [exactOf_last l p X hX hz HP.out]; rfl, below_drewN ((Below.refl _ _).alloc (Nat.le_refl _) _) _⟩
  · have HE : Hid (exactOf len n X = false) := by
      show _ = _
      unfold exactOf; rw [decide_eq_false h1, decide_eq_true (show 0 ≤ len by omega)]; rfl
    have h1' : ((n : Int) != (len + 7) / 8) = true := by rw [bne_iff_ne]; exact h1
    have h0' : decide (len < 0) = false := decide_eq_false h0
    have h00 : 0 ≤ len := by omega
    clear h1
    go_enter Try.func24, Try.ntmps24
    go_wp2
    go_ret
    exact ⟨by rw [HE.out]; rfl, (Below.refl _ _).alloc (Nat.le_refl _) _⟩

theorem zzExact_any (fa : Option Addr) (fl fc : Nat) (a : Option Addr) (n c b off : Nat) (len : Int) (X : Nat → Nat) (w : World) (hn : n ≤ 2000000) (hl0 : -16000000 ≤ len) (hl : len ≤ 16000000) (hX : ∀ i, X i < 256) (hv : View .u8 w a n b off (nb X)) :
    Calls Try.prog 10 #[.agg #[.slice fa fl fc, .slice a n c, .int .i64 len]] w fun e w' => e = .returned (.bool (exactOf len n X)) ∧ Below w.heap.size w w' := by
  have hB0 : ∀ o, Below w.heap.size w (w.alloc o) := fun o => (Below.refl _ _).alloc (Nat.le_refl _) _
  have hv' : ∀ o, View .u8 (w.alloc o) a n b off (nb X) := fun o => hv.later (hB0 o) (Nat.le_refl _)
  go_enter Try.func10, Try.ntmps10
  go_wp2_with fail
  refine (exact_any fa fl fc a n c b off len X _ hn hl0 hl hX (hv' _)).mono ?_
  rintro e w1 ⟨rfl, hb1⟩
  have hB1 : Below w.heap.size w w1 := (hB0 _).trans (hb1.mono (by simp))
  clear hb1 hv' hv hB0
  go_wp2
  go_ret
  exact ⟨rfl, hB1⟩

theorem exactOf_neg (len : Int) (n : Nat) (X : Nat → Nat) (h : ¬ (0 ≤ len ∧ (n : Int) = (len + 7) / 8)) : exactOf len n X = false := by
  unfold exactOf
  by_cases h0 : 0 ≤ len
  · rw [decide_eq_false (fun e => h ⟨h0, e⟩)]; simp
  · rw [decide_eq_false h0]; rfl
theorem exactOf_pos (len n : Nat) (X : Nat → Nat) (h : n = (len + 7) / 8) : exactOf (len : Int) n X = Tr.exactB len X := by
  unfold exactOf
  rw [decide_eq_true (show (0 : Int) ≤ (len : Int) by omega), decide_eq_true (show (n : Int) = ((len : Int) + 7) / 8 by omega), Int.toNat_natCast]; rfl
end Go.Proofs.Qxb6003732a
