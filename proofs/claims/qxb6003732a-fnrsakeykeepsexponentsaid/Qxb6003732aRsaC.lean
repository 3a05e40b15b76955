/-
  The walks of SetBytes, Set and Neg onto itself, low64, IsInt64, Int64.
-/
import Derived.Test.Qxb6003732aRsaB
import Derived.LaidEqlPtr
import Derived.Lib.Builder
namespace Go.Proofs.Qxb6003732a
open Go.RowKit

/-- A big.Int in block d: its sign, its L words, the least of them low. -/
def IsE (w : World) (d : Nat) (neg : Bool) (L low : Nat) : Prop :=
  ∃ a c r, w.heap[d]? = some (.cells #[.bool neg, .slice a L c] 43 (0, 0)) ∧ (L = 0 → low = 0) ∧ (0 < L → a = some ⟨r, 0, none⟩ ∧ r ≠ d ∧ w.cell? ⟨r, 0, none⟩ = some (.int .u64 ((low : Nat) : Int)))

theorem IsE.later {w : World} {d : Nat} {neg : Bool} {L low : Nat} (h : IsE w d neg L low) {w' : World} (hb : Below w.heap.size w w') : IsE w' d neg L low := by
  obtain ⟨a, c, r, h1, h2, h3⟩ := h
  exact ⟨a, c, r, (hb.block d (lt_of_block h1)).trans h1, h2, fun hL => ⟨(h3 hL).1, (h3 hL).2.1, (hb.cell (p := ⟨r, 0, none⟩) (World.block_lt_of_cell? _ _ (h3 hL).2.2)).trans (h3 hL).2.2⟩⟩

theorem left_zero (n : Nat) (X : Nat → Nat) (h : Rsa.left n X = 0) : Rsa.word n X 0 = 0 := by
  by_cases hn : n = 0
  · subst hn
    unfold Rsa.word
    have : Rsa.lsum (fun t => Rsa.back 0 X (8 * 0 + t)) 8 = Rsa.lsum (fun _ => 0) 8 := Rsa.lsum_congr fun t _ => by show Rsa.back 0 X _ = 0; unfold Rsa.back; rw [if_neg (by omega)]
    rw [this]; rfl
  · exact Rsa.trimmed_above (Rsa.word n X) (Rsa.nw n) 0 (by show Rsa.left n X ≤ 0; omega) (by unfold Rsa.nw; omega)

set_option maxHeartbeats 1000000 in
theorem SetBytes_any (d : Nat) (a : Option Addr) (n c b off : Nat) (X : Nat → Nat) (w : World) (hn : n ≤ 1048576) (hc : n ≤ c) (hc2 : c ≤ 9223372036854775807) (hX : ∀ i, X i < 256) (hv : View .u8 w a n b off (nb X))
    (hd : w.heap[d]? = some (.cells #[.bool false, .slice none 0 0] 43 (0, 0))) :
    Calls Try.prog 20 #[.pointer (some ⟨d, 0, none⟩), .slice a n c] w fun e w' => e = .returned (.pointer (some ⟨d, 0, none⟩)) ∧ Below d w w' ∧ w.heap.size ≤ w'.heap.size ∧ IsE w' d false (Rsa.left n X) (Rsa.word n X 0) := by
  have hdl := lt_of_block hd
  have c1 : w.cell? ⟨d, 1, none⟩ = some (.slice none 0 0) := by rw [cell_of_row _ _ _ _ _ _ hd]; rfl
  have HD : Hid (w.heap[d]? = some (.cells #[.bool false, .slice none 0 0] 43 (0, 0))) := hd
  clear hd
  go_enter Try.func20, Try.ntmps20
  go_wp2_with fail
  refine (setBytes_any a n c b off (Rsa.nw n) X _ hn hc hc2 hX rfl hv).mono ?_
  rintro e w1 ⟨v, rfl, hb1, a1, c1', r1, hv1, h1⟩
  rw [hv1]
  have HD1 : Hid (w1.heap[d]? = some (.cells #[.bool false, .slice none 0 0] 43 (0, 0))) := (hb1.block d hdl).trans HD.out
  have k0 : w1.cell? ⟨d, 0, none⟩ = some (.bool false) := by rw [cell_of_row _ _ _ _ _ _ HD1.out]; rfl
  have k1 : w1.cell? ⟨d, 1, none⟩ = some (.slice none 0 0) := by rw [cell_of_row _ _ _ _ _ _ HD1.out]; rfl
  have f0 : w1.frozen? ⟨d, 0, none⟩ = false := frozen_of_row _ _ _ _ _ HD1.out
  have f1 : w1.frozen? ⟨d, 1, none⟩ = false := frozen_of_row _ _ _ _ _ HD1.out
  have hs1 := hb1.size
  have hbd : Below d w w1 := hb1.mono (by omega)
  have hE : IsE ((w1.setCell ⟨d, 1, none⟩ (.slice a1 (Rsa.left n X) c1')).setCell ⟨d, 0, none⟩ (.bool false)) d false (Rsa.left n X) (Rsa.word n X 0) := by
    refine ⟨a1, c1', r1, ?_, left_zero n X, fun hL => ⟨(h1 hL).1, by have := (h1 hL).2.1; omega, ?_⟩⟩
    · rw [heap_setCell_same _ d 0 _ _ _ (heap_setCell_same w1 d 1 _ _ _ HD1.out)]; rfl
    · have hne : r1 ≠ d := by have := (h1 hL).2.1; omega
      rw [World.cell?_of_block (w := w1) (a := ⟨r1, 0, none⟩) (by rw [Below.heap_setCell _ _ _ _ hne, Below.heap_setCell _ _ _ _ hne])]
      exact (h1 hL).2.2
  clear h1 hv1 hb1 hv
  go_wp2
  go_ret
  exact ⟨rfl, (hbd.setCell (p := ⟨d, 1, none⟩) (Nat.le_refl _) _).setCell (p := ⟨d, 0, none⟩) (Nat.le_refl _) _, by simpa using hs1, hE⟩

theorem SetSelf_any (d : Nat) (w : World) :
    Calls Try.prog 32 #[.pointer (some ⟨d, 0, none⟩), .pointer (some ⟨d, 0, none⟩)] w fun e w' => e = .returned (.pointer (some ⟨d, 0, none⟩)) ∧ w = w' := by
  obtain ⟨j, hj⟩ := Option.isSome_iff_exists.1 (show (Try.prog.info? 43).isSome = true by kernel_rfl)
  have hne := fun w => Lib.run_neq_ptr_same (P := Try.prog) w (tp := 39) (te := 43) ⟨d, 0, none⟩ Try.underlying39 hj
  go_enter Try.func32, Try.ntmps32
  go_wp2
  go_ret
  exact ⟨rfl, rfl⟩

set_option maxHeartbeats 1000000 in
theorem NegSelf_any (d L low : Nat) (w : World) (h : IsE w d false L low) :
    Calls Try.prog 21 #[.pointer (some ⟨d, 0, none⟩), .pointer (some ⟨d, 0, none⟩)] w fun e w' => e = .returned (.pointer (some ⟨d, 0, none⟩)) ∧ Below d w w' ∧ w.heap.size ≤ w'.heap.size ∧ IsE w' d (decide (0 < L)) L low := by
  obtain ⟨a, c, r, h1, h2, h3⟩ := h
  have k0 : w.cell? ⟨d, 0, none⟩ = some (.bool false) := by rw [cell_of_row _ _ _ _ _ _ h1]; rfl
  have k1 : w.cell? ⟨d, 1, none⟩ = some (.slice a L c) := by rw [cell_of_row _ _ _ _ _ _ h1]; rfl
  have f0 : w.frozen? ⟨d, 0, none⟩ = false := frozen_of_row _ _ _ _ _ h1
  have hE : ∀ v, IsE (w.setCell ⟨d, 0, none⟩ (.bool v)) d v L low := fun v => by
    refine ⟨a, c, r, ?_, h2, fun hL => ⟨(h3 hL).1, (h3 hL).2.1, ?_⟩⟩
    · rw [heap_setCell_same w d 0 _ _ _ h1]; rfl
    · rw [World.cell?_of_block (w := w) (a := ⟨r, 0, none⟩) (Below.heap_setCell _ _ _ _ (h3 hL).2.1)]
      exact (h3 hL).2.2
  clear h1 h2 h3
  by_cases hL : 0 < L
  · have hL' : decide ((0 : Int) < (L : Int)) = true := decide_eq_true (by omega)
    have HL : Hid (decide (0 < L) = true) := decide_eq_true hL
    go_enter Try.func21, Try.ntmps21
    go_wp2_with fail
    refine (SetSelf_any d _).mono ?_
    rintro e w' ⟨rfl, rfl⟩
    go_wp2
    go_ret
    exact ⟨rfl, (Below.refl d w).setCell (p := ⟨d, 0, none⟩) (Nat.le_refl _) _, by simp, by rw [HL.out]; exact hE true⟩
  · have hL' : decide ((0 : Int) < (L : Int)) = false := decide_eq_false (by omega)
    have HL : Hid (decide (0 < L) = false) := decide_eq_false hL
    go_enter Try.func21, Try.ntmps21
    go_wp2_with fail
    refine (SetSelf_any d _).mono ?_
    rintro e w' ⟨rfl, rfl⟩
    go_wp2
    go_ret
    exact ⟨rfl, (Below.refl d w).setCell (p := ⟨d, 0, none⟩) (Nat.le_refl _) _, by simp, by rw [HL.out]; exact hE false⟩

theorem low64_any (a : Option Addr) (L c r low : Nat) (w : World) (h0 : L = 0 → low = 0) (h1 : 0 < L → a = some ⟨r, 0, none⟩ ∧ w.cell? ⟨r, 0, none⟩ = some (.int .u64 ((low : Nat) : Int))) :
    Calls Try.prog 43 #[.slice a L c] w fun e w' => e = .returned (.int .u64 ((low : Nat) : Int)) ∧ w = w' := by
  by_cases hL : L = 0
  · obtain rfl := h0 hL
    subst hL
    go_enter Try.func43, Try.ntmps43
    go_wp2
    go_ret
    exact ⟨rfl, rfl⟩
  · obtain ⟨rfl, k0⟩ := h1 (by omega)
    have hL1 : ((L : Int) == 0) = false := beq_eq_false_iff_ne.2 (by omega)
    have hL2 : (0 : Int) < (L : Int) := by omega
    have hL3 : 0 < L := by omega
    go_enter Try.func43, Try.ntmps43
    go_wp2
    go_ret
    exact ⟨rfl, rfl⟩

/-- Does it fit an int64? -/
def fitsB (neg : Bool) (L low : Nat) : Bool := decide (L ≤ 1) && (decide (low < 9223372036854775808) || (neg && decide (low = 9223372036854775808)))
/-- Its value as an int64. -/
def i64Of (neg : Bool) (low : Nat) : Int := if neg = true then wrap64 (-(wrap64 ((low : Nat) : Int))) else wrap64 ((low : Nat) : Int)

theorem wrap64_bd (x : Int) : -9223372036854775808 ≤ wrap64 x ∧ wrap64 x ≤ 9223372036854775807 := by unfold wrap64; omega
theorem i64Of_bd (neg : Bool) (low : Nat) : -9223372036854775808 ≤ i64Of neg low ∧ i64Of neg low ≤ 9223372036854775807 := by
  unfold i64Of; split <;> exact wrap64_bd _

set_option maxHeartbeats 1000000 in
theorem Int64_any (d L low : Nat) (neg : Bool) (w : World) (h : IsE w d neg L low) :
    Calls Try.prog 40 #[.pointer (some ⟨d, 0, none⟩)] w fun e w' => e = .returned (.int .i64 (i64Of neg low)) ∧ w = w' := by
  obtain ⟨a, c, r, h1, h2, h3⟩ := h
  have k0 : w.cell? ⟨d, 0, none⟩ = some (.bool neg) := by rw [cell_of_row _ _ _ _ _ _ h1]; rfl
  have k1 : w.cell? ⟨d, 1, none⟩ = some (.slice a L c) := by rw [cell_of_row _ _ _ _ _ _ h1]; rfl
  have hc := low64_any a L c r low w h2 (fun hL => ⟨(h3 hL).1, (h3 hL).2.2⟩)
  have HC := (show Hid (Calls Try.prog 43 #[.slice a L c] w fun e w' => e = .returned (.int .u64 ((low : Nat) : Int)) ∧ w = w') from hc)
  clear h1 h2 h3 hc
  cases neg with
  | true =>
    have HE : Hid (i64Of true low = wrap64 (-(wrap64 (low : Int)))) := by show _ = _; unfold i64Of; exact if_pos rfl
    go_enter Try.func40, Try.ntmps40
    go_wp2_with fail
    refine HC.out.mono ?_
    rintro e w' ⟨rfl, rfl⟩
    go_wp2
    go_ret
    exact ⟨congrArg (fun x => Ending.returned (Value.int .i64 x)) HE.out.symm, rfl⟩
  | false =>
    have HE : Hid (i64Of false low = wrap64 (low : Int)) := by show _ = _; unfold i64Of; exact if_neg (by decide)
    go_enter Try.func40, Try.ntmps40
    go_wp2_with fail
    refine HC.out.mono ?_
    rintro e w' ⟨rfl, rfl⟩
    go_wp2
    go_ret
    exact ⟨congrArg (fun x => Ending.returned (Value.int .i64 x)) HE.out.symm, rfl⟩

set_option maxHeartbeats 2000000 in
theorem IsInt64_any (d L low : Nat) (neg : Bool) (w : World) (hlow : low < 18446744073709551616) (h : IsE w d neg L low) :
    Calls Try.prog 39 #[.pointer (some ⟨d, 0, none⟩)] w fun e w' => e = .returned (.bool (fitsB neg L low)) ∧ w = w' := by
  obtain ⟨a, c, r, h1, h2, h3⟩ := h
  have k0 : w.cell? ⟨d, 0, none⟩ = some (.bool neg) := by rw [cell_of_row _ _ _ _ _ _ h1]; rfl
  have k1 : w.cell? ⟨d, 1, none⟩ = some (.slice a L c) := by rw [cell_of_row _ _ _ _ _ _ h1]; rfl
  have hc := low64_any a L c r low w h2 (fun hL => ⟨(h3 hL).1, (h3 hL).2.2⟩)
  have HC := (show Hid (Calls Try.prog 43 #[.slice a L c] w fun e w' => e = .returned (.int .u64 ((low : Nat) : Int)) ∧ w = w') from hc)
  clear h1 h2 h3 hc
  by_cases hL : L ≤ 1
  · have hL' : (L : Int) ≤ 1 := by omega
    by_cases hl : low < 9223372036854775808
    · have HE : Hid (fitsB neg L low = true) := by
        show _ = _
        unfold fitsB; rw [decide_eq_true hL, decide_eq_true hl]; rfl
      have hl' : (low : Int) < 9223372036854775808 := by omega
      have hd : decide ((0 : Int) ≤ (low : Int)) = true := decide_eq_true (by omega)
      go_enter Try.func39, Try.ntmps39
      go_wp2_with fail
      refine HC.out.mono ?_
      rintro e w' ⟨rfl, rfl⟩
      go_wp2
      go_ret
      exact ⟨by rw [HE.out]; rfl, rfl⟩
    · obtain ⟨x, hx⟩ : ∃ x : Int, x = (low : Int) - 18446744073709551616 := ⟨_, rfl⟩
      have hw : wrap64 (low : Int) = x := by unfold wrap64; omega
      have hx0 : x < 0 := by omega
      have hx1 : -9223372036854775808 ≤ x := by omega
      have hd : decide ((0 : Int) ≤ x) = false := decide_eq_false (by omega)
      have HX : Hid (x = (low : Int) - 18446744073709551616) := hx
      clear hx
      cases neg with
      | false =>
        have HE : Hid (fitsB false L low = false) := by
          show _ = _
          unfold fitsB; rw [decide_eq_false hl]; simp
        go_enter Try.func39, Try.ntmps39
        go_wp2_with fail
        refine HC.out.mono ?_
        rintro e w' ⟨rfl, rfl⟩
        go_wp2
        go_ret
        exact ⟨by rw [HE.out]; rfl, rfl⟩
      | true =>
        by_cases h63 : low = 9223372036854775808
        · have HE : Hid (fitsB true L low = true) := by
            show _ = _
            unfold fitsB; rw [decide_eq_true hL, decide_eq_true h63]; simp
          have hxx : (x == wrap64 (-x)) = true := by rw [beq_iff_eq]; have := HX.out; unfold wrap64; omega
          go_enter Try.func39, Try.ntmps39
          go_wp2_with fail
          refine HC.out.mono ?_
          rintro e w' ⟨rfl, rfl⟩
          clear h63
          go_wp2
          go_ret
          exact ⟨by rw [HE.out]; rfl, rfl⟩
        · have HE : Hid (fitsB true L low = false) := by
            show _ = _
            unfold fitsB; rw [decide_eq_false hl, decide_eq_false h63]; simp
          have hx2 : -9223372036854775808 < x := by have := HX.out; omega
          have hxx : (x == -x) = false := beq_eq_false_iff_ne.2 (by omega)
          go_enter Try.func39, Try.ntmps39
          go_wp2_with fail
          refine HC.out.mono ?_
          rintro e w' ⟨rfl, rfl⟩
          go_wp2
          go_ret
          exact ⟨by rw [HE.out]; rfl, rfl⟩
  · have HE : Hid (fitsB neg L low = false) := by
      show _ = _
      unfold fitsB; rw [decide_eq_false hL]; rfl
    have hL' : ¬ (L : Int) ≤ 1 := by omega
    clear HC
    go_enter Try.func39, Try.ntmps39
    go_wp2
    go_ret
    exact ⟨by rw [HE.out]; rfl, rfl⟩
end Go.Proofs.Qxb6003732a
