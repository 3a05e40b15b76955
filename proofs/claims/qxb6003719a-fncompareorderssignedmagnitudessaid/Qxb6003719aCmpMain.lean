/-
  FnCompareOrdersSignedMagnitudes past its early returns.
-/
import Derived.Test.Qxb6003719aCmpG
import Derived.Deep.DeepCutAuto
import Derived.Deep.RegionWith
namespace Go.Proofs.Qxb6003719a
open Go.RowKit

set_option maxHeartbeats 4000000 in
set_option maxRecDepth 100000 in
theorem cmpMain (xn yn : Bool) (a1 a3 : Option Addr) (n c m c3 b off d off3 : Nat) (X Y : Nat → Nat) (w : World) (hv : View w a1 n b off X) (hv3 : View w a3 m d off3 Y) (hn : n ≤ 12) (hm : m ≤ 12) :
    Calls Try.prog 4 #[.bool xn, .slice a1 n c, .bool yn, .slice a3 m c3] w fun e w' => e = .returned (.bool true) ∧ Below w.heap.size w w' := by
  have c11 : ∀ w, Calls Try.prog 11 #[.bool xn, .slice a1 n c, .bool yn, .slice a3 m c3] w fun e w' => e = .returned (.bool true) ∧ w = w' := fun w => by
    go_enter Try.func11, Try.ntmps11
    go_wp2
    go_ret
    exact ⟨rfl, rfl⟩
  have hn' : ¬ (12 : Int) < (n : Int) := by omega
  have hm' : ¬ (12 : Int) < (m : Int) := by omega
  have hal := alloc32
  go_enter Try.func4, Try.ntmps4
  go_wp2_with fail
  refine (c11 _).mono ?_
  rintro e w' ⟨rfl, rfl⟩
  clear c11
  go_wp2_with fail
  refine (clone_any a1 n c b off X _ (by omega) hv).mono ?_
  rintro e w1 ⟨ax, cx, rfl, hb1, hv1⟩
  have hvy1 := hv3.later hb1 (Nat.le_refl _)
  clear hv hv3
  go_wp2_with fail
  refine (clone_any a3 m c3 d off3 Y _ (by omega) hvy1).mono ?_
  rintro e w2 ⟨ay, cy, rfl, hb2, hvy2⟩
  have hvx2 := hv1.later hb2 (Nat.le_refl _)
  have hB2 : Below w.heap.size w w2 := hb1.trans (hb2.mono hb1.size)
  clear hb1 hb2 hvy1 hv1
  go_wp2_with fail
  refine (pad_any ax n cx w.heap.size 0 X _ hn hvx2).mono ?_
  rintro e w3 ⟨rfl, hb3⟩
  have hvx3 := hvx2.later hb3 (Nat.le_refl _)
  have hvy3 := hvy2.later hb3 (Nat.le_refl _)
  have hB3 : Below w.heap.size w w3 := hB2.trans (hb3.mono hB2.size)
  clear hb3 hvx2 hvy2 hB2
  have HA3 : Hid (∀ w : World, (w.alloc (.cells (arr12 zero12) 32)).heap[w.heap.size]? = some (.cells (arr12 zero12) 32 (0, 0))) := fun w => heap_alloc_new w _
  go_wp2_with (first
    | (refine wpList_store_row rfl 32 (.tmp 9) (.tmp 39) rfl w3.heap.size rfl (arr12 (Cmp.pad n X)) rfl (arr12 zero12) 32 (HA3.out w3) (info32 _) rfl (one12 _) w3.heap.size w3 ((Below.refl _ _).alloc (Nat.le_refl _) _) (Nat.le_refl _) ?_; intro w4 hg4 hb4 _))
  have hl4 : w3.heap.size < w4.heap.size := lt_of_block hg4.out
  have hvx4 := hvx3.later hb4 (Nat.le_refl _)
  have hvy4 := hvy3.later hb4 (Nat.le_refl _)
  have hB4 : Below w.heap.size w w4 := hB3.trans (hb4.mono hB3.size)
  clear hb4 hvx3 hvy3 hB3
  refine (pad_any ay m cy w1.heap.size 0 Y _ hm hvy4).mono ?_
  rintro e w5 ⟨rfl, hb5⟩
  have hg5 : Hid (w5.heap[w3.heap.size]? = some (.cells (arr12 (Cmp.pad n X)) 32 (0, 0))) := (hb5.block _ hl4).trans hg4.out
  have hl5 : w3.heap.size < w5.heap.size := lt_of_block hg5.out
  have hvx5 := hvx4.later hb5 (Nat.le_refl _)
  have hvy5 := hvy4.later hb5 (Nat.le_refl _)
  have hB5 : Below w.heap.size w w5 := hB4.trans (hb5.mono hB4.size)
  clear hb5 hvx4 hvy4 hB4 hg4 hl4
  go_wp2_with (first
    | (refine wpList_store_row rfl 32 (.tmp 10) (.tmp 41) rfl w5.heap.size rfl (arr12 (Cmp.pad m Y)) rfl (arr12 zero12) 32 (HA3.out w5) (info32 _) rfl (one12 _) w5.heap.size w5 ((Below.refl _ _).alloc (Nat.le_refl _) _) (Nat.le_refl _) ?_; intro w6 hg6 hb6 _; have hg6x : Hid (w6.heap[w3.heap.size]? = some (.cells (arr12 (Cmp.pad n X)) 32 (0, 0))) := (hb6.block _ hl5).trans hg5.out)
    | (refine wpList_load_row rfl 32 (.tmp 9) rfl w3.heap.size rfl 32 _ (0, 0) _ hg6x.out Try.underlying32 rfl (info32 _) ?_))
  have hvx6 := hvx5.later hb6 (Nat.le_refl _)
  have hvy6 := hvy5.later hb6 (Nat.le_refl _)
  have hB6 : Below w.heap.size w w6 := hB5.trans (hb6.mono hB5.size)
  have hl6 : w5.heap.size < w6.heap.size := lt_of_block hg6.out
  have hl6x : w3.heap.size < w6.heap.size := lt_of_block hg6x.out
  clear hb6 hvx5 hvy5 hB5 hg5 hal HA3
  refine (sign_any xn (Cmp.pad n X) _).mono ?_
  rintro e w7 ⟨rfl, hb7, _⟩
  have hg7 : Hid (w7.heap[w5.heap.size]? = some (.cells (arr12 (Cmp.pad m Y)) 32 (0, 0))) := (hb7.block _ hl6).trans hg6.out
  have hg7x : Hid (w7.heap[w3.heap.size]? = some (.cells (arr12 (Cmp.pad n X)) 32 (0, 0))) := (hb7.block _ hl6x).trans hg6x.out
  have hvx7 := hvx6.later hb7 (Nat.le_refl _)
  have hvy7 := hvy6.later hb7 (Nat.le_refl _)
  have hB7 : Below w.heap.size w w7 := hB6.trans (hb7.mono hB6.size)
  have hl7 : w5.heap.size < w7.heap.size := lt_of_block hg7.out
  have hl7x : w3.heap.size < w7.heap.size := lt_of_block hg7x.out
  clear hb7 hvx6 hvy6 hB6 hg6 hg6x hl6 hl6x
  go_wp2_with (first
    | (refine wpList_load_row rfl 32 (.tmp 10) rfl w5.heap.size rfl 32 _ (0, 0) _ hg7.out Try.underlying32 rfl (info32 _) ?_))
  refine (sign_any yn (Cmp.pad m Y) _).mono ?_
  rintro e w8 ⟨rfl, hb8, _⟩
  have hg8 : Hid (w8.heap[w5.heap.size]? = some (.cells (arr12 (Cmp.pad m Y)) 32 (0, 0))) := (hb8.block _ hl7).trans hg7.out
  have hg8x : Hid (w8.heap[w3.heap.size]? = some (.cells (arr12 (Cmp.pad n X)) 32 (0, 0))) := (hb8.block _ hl7x).trans hg7x.out
  have hvx8 := hvx7.later hb8 (Nat.le_refl _)
  have hvy8 := hvy7.later hb8 (Nat.le_refl _)
  have hB8 : Below w.heap.size w w8 := hB7.trans (hb8.mono hB7.size)
  clear hb8 hvx7 hvy7 hB7 hg7 hg7x hl7 hl7x hl5
  go_wp2
  go_loopw [13, 14] (fun g i wr => ∃ j : Nat, j ≤ 12 ∧ g = .int .i64 (Cmp.magUp (Cmp.pad n X) (Cmp.pad m Y) j) ∧ i = .int .i64 (11 - (j : Int)) ∧ Below w8.heap.size w8 wr) (fun _ i _ => (intOf i + 1).toNat)
  case atStart => exact ⟨0, Nat.zero_le _, rfl, rfl, Below.refl _ _⟩
  case round =>
    obtain ⟨j, hj, rfl, rfl, hbr⟩ := hrel
    by_cases hlt : j < 12
    · have hrx : wr.rowIs w3.heap.size 32 12 (wordRow (Cmp.pad n X)) := (row12_of _ hg8x.out).of_block (hbr.block _ (lt_of_block hg8x.out))
      have hry : wr.rowIs w5.heap.size 32 12 (wordRow (Cmp.pad m Y)) := (row12_of _ hg8.out).of_block (hbr.block _ (lt_of_block hg8.out))
      obtain ⟨k, hk⟩ : ∃ k, k = 11 - j := ⟨_, rfl⟩
      have ek : (11 - (j : Int)) = (k : Int) := by omega
      rw [ek]
      have gx : wr.cell? ⟨w3.heap.size, k, none⟩ = some (.int .u64 ((Cmp.pad n X k : Nat) : Int)) := hrx.cell (by omega)
      have gy : wr.cell? ⟨w5.heap.size, k, none⟩ = some (.int .u64 ((Cmp.pad m Y k : Nat) : Int)) := hry.cell (by omega)
      have hk0 : (0 : Int) ≤ (k : Int) := by omega
      have hk1 : (k : Int) < 12 := by omega
      have Hk : Hid (k = 11 - j) := hk
      clear hrx hry ek hk
      by_cases hz : Cmp.magUp (Cmp.pad n X) (Cmp.pad m Y) j = 0
      · have HGo := Cmp.magUp_go _ _ j hz
        rw [← Hk.out] at HGo
        have HG : Hid (Cmp.magUp (Cmp.pad n X) (Cmp.pad m Y) (j + 1) = if Cmp.pad n X k < Cmp.pad m Y k then -1 else if Cmp.pad m Y k < Cmp.pad n X k then 1 else 0) := HGo
        rw [hz]
        clear HGo hz
        by_cases h1 : Cmp.pad n X k < Cmp.pad m Y k
        · have h1' : ((Cmp.pad n X k : Nat) : Int) < ((Cmp.pad m Y k : Nat) : Int) := by omega
          have HE : Hid (Cmp.magUp (Cmp.pad n X) (Cmp.pad m Y) (j + 1) = -1) := HG.out.trans (if_pos h1)
          clear HG
          go_wp2
          go_quiet (fail)
          go_wp2
          go_quiet (fail)
          go_wp2
          go_roundw
          case rel => exact ⟨j + 1, by omega, by rw [HE.out], congrArg (Value.int .i64) (by have := Hk.out; omega), below_drewN hbr _⟩
          case measure => simp [intOf]
        · have h1' : ¬ ((Cmp.pad n X k : Nat) : Int) < ((Cmp.pad m Y k : Nat) : Int) := by omega
          by_cases h2 : Cmp.pad m Y k < Cmp.pad n X k
          · have h2' : ((Cmp.pad m Y k : Nat) : Int) < ((Cmp.pad n X k : Nat) : Int) := by omega
            have HE : Hid (Cmp.magUp (Cmp.pad n X) (Cmp.pad m Y) (j + 1) = 1) := HG.out.trans ((if_neg h1).trans (if_pos h2))
            clear HG
            go_wp2
            go_quiet (fail)
            go_wp2
            go_quiet (fail)
            go_wp2
            go_roundw
            case rel => exact ⟨j + 1, by omega, by rw [HE.out], congrArg (Value.int .i64) (by have := Hk.out; omega), below_drewN hbr _⟩
            case measure => simp [intOf]
          · have h2' : ¬ ((Cmp.pad m Y k : Nat) : Int) < ((Cmp.pad n X k : Nat) : Int) := by omega
            have HE : Hid (Cmp.magUp (Cmp.pad n X) (Cmp.pad m Y) (j + 1) = 0) := HG.out.trans ((if_neg h1).trans (if_neg h2))
            clear HG
            go_wp2
            go_quiet (fail)
            go_wp2
            go_quiet (fail)
            go_wp2
            go_roundw
            case rel => exact ⟨j + 1, by omega, by rw [HE.out], congrArg (Value.int .i64) (by have := Hk.out; omega), below_drewN hbr _⟩
            case measure => simp [intOf]
      · have HE : Hid (Cmp.magUp (Cmp.pad n X) (Cmp.pad m Y) (j + 1) = Cmp.magUp (Cmp.pad n X) (Cmp.pad m Y) j) := Cmp.magUp_stay _ _ j hz
        have hz' : (Cmp.magUp (Cmp.pad n X) (Cmp.pad m Y) j == 0) = false := beq_eq_false_iff_ne.2 hz
        clear hz
        go_wp2
        go_quiet (fail)
        go_wp2
        go_quiet (fail)
        go_wp2
        go_roundw
        case rel => exact ⟨j + 1, by omega, by rw [HE.out], congrArg (Value.int .i64) (by have := Hk.out; omega), below_drewN hbr _⟩
        case measure => simp [intOf]
    · obtain rfl : j = 12 := by omega
      have hvx9 := hvx8.later hbr (Nat.le_refl _)
      have hvy9 := hvy8.later hbr (Nat.le_refl _)
      have hB9 : Below w.heap.size w wr := hB8.trans (hbr.mono hB8.size)
      have hg9 : Hid (wr.heap[w5.heap.size]? = some (.cells (arr12 (Cmp.pad m Y)) 32 (0, 0))) := (hbr.block _ (lt_of_block hg8.out)).trans hg8.out
      have hg9x : Hid (wr.heap[w3.heap.size]? = some (.cells (arr12 (Cmp.pad n X)) 32 (0, 0))) := (hbr.block _ (lt_of_block hg8x.out)).trans hg8x.out
      clear hg8 hg8x hvx8 hvy8 hB8 hbr
      have hmul := mul_bd (sgn_bd xn (Cmp.pad n X)) (show -1 ≤ Cmp.magUp (Cmp.pad n X) (Cmp.pad m Y) 12 ∧ Cmp.magUp (Cmp.pad n X) (Cmp.pad m Y) 12 ≤ 1 by rcases Cmp.magUp_range (Cmp.pad n X) (Cmp.pad m Y) 12 with h | h | h <;> omega)
      go_upto_if 79 with (fail)
      go_cut [15] (fun s wc => s = .int .i64 (want1 xn (Cmp.pad n X) yn (Cmp.pad m Y)) ∧ Hid (wr = wc))
      case first =>
        by_cases h1 : Cmp.sgn xn (Cmp.pad n X) < Cmp.sgn yn (Cmp.pad m Y)
        · go_wp2
          go_meet
          case rel => exact ⟨congrArg (Value.int .i64) (by unfold want1; rw [if_pos h1]), rfl⟩
        · go_wp2
          go_meet
          case rel => exact ⟨congrArg (Value.int .i64) (by unfold want1; rw [if_neg (by omega)]), rfl⟩
      case rest =>
        obtain ⟨rfl, hwc⟩ := hcut
        obtain rfl := hwc.out
        clear hwc hmul
        go_upto_if 82 with (fail)
        go_cut [15] (fun s wc => s = .int .i64 (Cmp.want xn (Cmp.pad n X) yn (Cmp.pad m Y)) ∧ Hid (wr = wc))
        case first =>
          by_cases h1 : Cmp.sgn yn (Cmp.pad m Y) < Cmp.sgn xn (Cmp.pad n X)
          · go_wp2
            go_meet
            case rel => exact ⟨congrArg (Value.int .i64) (by rw [want_of, if_pos h1]), rfl⟩
          · go_wp2
            go_meet
            case rel => exact ⟨congrArg (Value.int .i64) (by rw [want_of, if_neg (by omega)]), rfl⟩
        case rest =>
          obtain ⟨rfl, hwc⟩ := hcut
          obtain rfl := hwc.out
          clear hwc
          have hlx : w3.heap.size < wr.heap.size := lt_of_block hg9x.out
          have hly : w5.heap.size < wr.heap.size := lt_of_block hg9.out
          go_wp2_with fail
          refine (toWords0' ax n cx w.heap.size 0 X _ (by omega) hvx9).mono ?_
          rintro e w10 ⟨rfl, hb10, hr10⟩
          go_wp2_with fail
          refine (coefOf' xn wr.heap.size n X _ hn hr10).mono ?_
          rintro e w11 ⟨rfl, hb11, hx11⟩
          have hb911 : Below wr.heap.size wr w11 := hb10.trans (hb11.mono hb10.size)
          have hvy11 := hvy9.later hb911 (Nat.le_refl _)
          clear hvx9 hvy9 hb10 hb11 hr10
          go_wp2_with fail
          refine (toWords0' ay m cy w1.heap.size 0 Y _ (by omega) hvy11).mono ?_
          rintro e w12 ⟨rfl, hb12, hr12⟩
          go_wp2_with fail
          refine (coefOf' yn w11.heap.size m Y _ hm hr12).mono ?_
          rintro e w13 ⟨rfl, hb13, hy13⟩
          have hx13 := hx11.later (hb12.trans (hb13.mono hb12.size)) hx11.lt
          have hb913 : Below wr.heap.size wr w13 := hb911.trans ((hb12.trans (hb13.mono hb12.size)).mono hb911.size)
          clear hvy11 hb12 hb13 hr12 hb911 hx11
          have hsx := sgn_bd xn (Cmp.pad n X)
          have hsy := sgn_bd yn (Cmp.pad m Y)
          have hww := Cmp.want_range xn (Cmp.pad n X) yn (Cmp.pad m Y)
          go_wp2_with fail
          refine (sign' w10.heap.size xn (Cmp.pad n X) _ hx13).mono ?_
          rintro e w' ⟨rfl, rfl⟩
          go_wp2_with fail
          refine (sign' w12.heap.size yn (Cmp.pad m Y) _ hy13).mono ?_
          rintro e w' ⟨rfl, rfl⟩
          go_wp2_with fail
          refine (compXY w10.heap.size w12.heap.size xn yn (Cmp.pad n X) (Cmp.pad m Y) _ hx13 hy13).mono ?_
          rintro e w' ⟨rfl, q1, rfl⟩
          have hxA : ∀ q, Coef (w13.drewN q) w10.heap.size xn (Cmp.pad n X) := fun _ => hx13
          have hyA : ∀ q, Coef (w13.drewN q) w12.heap.size yn (Cmp.pad m Y) := fun _ => hy13
          go_wp2_with fail
          refine (compYX w10.heap.size w12.heap.size xn yn (Cmp.pad n X) (Cmp.pad m Y) _ (by exact hxA _) (by exact hyA _)).mono ?_
          rintro e w' ⟨rfl, q2, rfl⟩
          go_wp2_with fail
          refine (compXX w10.heap.size xn (Cmp.pad n X) _ (by exact hx13)).mono ?_
          rintro e w' ⟨rfl, q3, rfl⟩
          go_wp2_with fail
          have hxB : Coef (w13.drewN (q1 + q2 + q3)) w10.heap.size xn (Cmp.pad n X) := hx13
          have hyB : Coef (w13.drewN (q1 + q2 + q3)) w12.heap.size yn (Cmp.pad m Y) := hy13
          have hbB : Below wr.heap.size wr (w13.drewN (q1 + q2 + q3)) := below_drewN hb913 _
          generalize w13.drewN (q1 + q2 + q3) = wB at *
          clear hx13 hy13 hb913 hxA hyA
          refine (bigAbs' w10.heap.size xn (Cmp.pad n X) _ hxB).mono ?_
          rintro e w14 ⟨dx, rx, rfl, hb14, hbx14⟩
          have hy14 := hyB.later hb14 hyB.lt
          have hb914 : Below wr.heap.size wr w14 := hbB.trans (hb14.mono hbB.size)
          clear hxB hyB hbB hb14
          go_wp2_with fail
          refine (bigAbs' w12.heap.size yn (Cmp.pad m Y) _ hy14).mono ?_
          rintro e w15 ⟨dy, ry, rfl, hb15, hby15⟩
          have hbx15 := hbx14.later hb15 (Nat.le_refl _)
          have hb915 : Below wr.heap.size wr w15 := hb914.trans (hb15.mono hb914.size)
          have hgy : Hid (w15.heap[w5.heap.size]? = some (.cells (arr12 (Cmp.pad m Y)) 32 (0, 0))) := (hb915.block _ hly).trans hg9.out
          have hgx : Hid (w15.heap[w3.heap.size]? = some (.cells (arr12 (Cmp.pad n X)) 32 (0, 0))) := (hb915.block _ hlx).trans hg9x.out
          have hB15 : Below w.heap.size w w15 := hB9.trans (hb915.mono hB9.size)
          clear hy14 hb914 hb15 hbx14 hb915 hg9 hg9x hB9 hlx hly
          have hmx := mul_bd hsx hsx
          have hmy := mul_bd hsy hsy
          go_wp2_with fail
          refine (bigSign' dx rx xn (Cmp.pad n X) _ hbx15).mono ?_
          rintro e w' ⟨rfl, rfl⟩
          go_wp2_with fail
          refine (bigSign' dy ry yn (Cmp.pad m Y) _ hby15).mono ?_
          rintro e w' ⟨rfl, rfl⟩
          go_wp2_with fail
          have hrx := row12_of _ hgx.out
          have hry := row12_of _ hgy.out
          have x0 : w15.cell? ⟨w3.heap.size, 0, none⟩ = some (.int .u64 ((Cmp.pad n X 0 : Nat) : Int)) := hrx.cell (by decide)
          have x1 : w15.cell? ⟨w3.heap.size, 1, none⟩ = some (.int .u64 ((Cmp.pad n X 1 : Nat) : Int)) := hrx.cell (by decide)
          have x2 : w15.cell? ⟨w3.heap.size, 2, none⟩ = some (.int .u64 ((Cmp.pad n X 2 : Nat) : Int)) := hrx.cell (by decide)
          have x3 : w15.cell? ⟨w3.heap.size, 3, none⟩ = some (.int .u64 ((Cmp.pad n X 3 : Nat) : Int)) := hrx.cell (by decide)
          have x4 : w15.cell? ⟨w3.heap.size, 4, none⟩ = some (.int .u64 ((Cmp.pad n X 4 : Nat) : Int)) := hrx.cell (by decide)
          have x5 : w15.cell? ⟨w3.heap.size, 5, none⟩ = some (.int .u64 ((Cmp.pad n X 5 : Nat) : Int)) := hrx.cell (by decide)
          have x6 : w15.cell? ⟨w3.heap.size, 6, none⟩ = some (.int .u64 ((Cmp.pad n X 6 : Nat) : Int)) := hrx.cell (by decide)
          have x7 : w15.cell? ⟨w3.heap.size, 7, none⟩ = some (.int .u64 ((Cmp.pad n X 7 : Nat) : Int)) := hrx.cell (by decide)
          have x8 : w15.cell? ⟨w3.heap.size, 8, none⟩ = some (.int .u64 ((Cmp.pad n X 8 : Nat) : Int)) := hrx.cell (by decide)
          have x9 : w15.cell? ⟨w3.heap.size, 9, none⟩ = some (.int .u64 ((Cmp.pad n X 9 : Nat) : Int)) := hrx.cell (by decide)
          have x10 : w15.cell? ⟨w3.heap.size, 10, none⟩ = some (.int .u64 ((Cmp.pad n X 10 : Nat) : Int)) := hrx.cell (by decide)
          have x11 : w15.cell? ⟨w3.heap.size, 11, none⟩ = some (.int .u64 ((Cmp.pad n X 11 : Nat) : Int)) := hrx.cell (by decide)
          have y0 : ∀ o, (w15.alloc o).cell? ⟨w5.heap.size, 0, none⟩ = some (.int .u64 ((Cmp.pad m Y 0 : Nat) : Int)) := fun o => (hry.alloc o).cell (by decide)
          have y1 : ∀ o, (w15.alloc o).cell? ⟨w5.heap.size, 1, none⟩ = some (.int .u64 ((Cmp.pad m Y 1 : Nat) : Int)) := fun o => (hry.alloc o).cell (by decide)
          have y2 : ∀ o, (w15.alloc o).cell? ⟨w5.heap.size, 2, none⟩ = some (.int .u64 ((Cmp.pad m Y 2 : Nat) : Int)) := fun o => (hry.alloc o).cell (by decide)
          have y3 : ∀ o, (w15.alloc o).cell? ⟨w5.heap.size, 3, none⟩ = some (.int .u64 ((Cmp.pad m Y 3 : Nat) : Int)) := fun o => (hry.alloc o).cell (by decide)
          have y4 : ∀ o, (w15.alloc o).cell? ⟨w5.heap.size, 4, none⟩ = some (.int .u64 ((Cmp.pad m Y 4 : Nat) : Int)) := fun o => (hry.alloc o).cell (by decide)
          have y5 : ∀ o, (w15.alloc o).cell? ⟨w5.heap.size, 5, none⟩ = some (.int .u64 ((Cmp.pad m Y 5 : Nat) : Int)) := fun o => (hry.alloc o).cell (by decide)
          have y6 : ∀ o, (w15.alloc o).cell? ⟨w5.heap.size, 6, none⟩ = some (.int .u64 ((Cmp.pad m Y 6 : Nat) : Int)) := fun o => (hry.alloc o).cell (by decide)
          have y7 : ∀ o, (w15.alloc o).cell? ⟨w5.heap.size, 7, none⟩ = some (.int .u64 ((Cmp.pad m Y 7 : Nat) : Int)) := fun o => (hry.alloc o).cell (by decide)
          have y8 : ∀ o, (w15.alloc o).cell? ⟨w5.heap.size, 8, none⟩ = some (.int .u64 ((Cmp.pad m Y 8 : Nat) : Int)) := fun o => (hry.alloc o).cell (by decide)
          have y9 : ∀ o, (w15.alloc o).cell? ⟨w5.heap.size, 9, none⟩ = some (.int .u64 ((Cmp.pad m Y 9 : Nat) : Int)) := fun o => (hry.alloc o).cell (by decide)
          have y10 : ∀ o, (w15.alloc o).cell? ⟨w5.heap.size, 10, none⟩ = some (.int .u64 ((Cmp.pad m Y 10 : Nat) : Int)) := fun o => (hry.alloc o).cell (by decide)
          have y11 : ∀ o, (w15.alloc o).cell? ⟨w5.heap.size, 11, none⟩ = some (.int .u64 ((Cmp.pad m Y 11 : Nat) : Int)) := fun o => (hry.alloc o).cell (by decide)
          have hby16 : ∀ o, Big (w15.alloc o) dy ry (Cmp.pad m Y) := fun o => hby15.later ((Below.refl _ _).alloc (Nat.le_refl _) o) (Nat.le_refl _)
          have hB16 : ∀ o o', Below w.heap.size w ((w15.alloc o).alloc o') := fun o o' => (hB15.alloc hB15.size o).alloc (by simp; have := hB15.size; omega) o'
          clear hrx hry hgx hgy hmx hmy hsx hsy hww
          go_region_with (first
            | (go_at_call_of 20 (Value.pointer (some ⟨dx, 0, none⟩)); refine (bits' dx rx (Cmp.pad n X) _ ?_).mono ?_; exact hbx15; rintro e w' ⟨rfl, rfl⟩)
            | (go_at_call_of 20 (Value.pointer (some ⟨dy, 0, none⟩)); refine (bits' dy ry (Cmp.pad m Y) _ ?_).mono ?_; exact hby16 _; rintro e w' ⟨rfl, rfl⟩)
            | (go_at_call_of 19 (Value.slice (some ⟨rx, 0, none⟩) (Cmp.trimmed (Cmp.pad n X) 12) (Cmp.trimmed (Cmp.pad n X) 12)); refine (bitsAre' dx rx (Cmp.pad n X) _ ?_).mono ?_; exact hbx15; rintro e w' ⟨rfl, rfl⟩)
            | (go_at_call_of 19 (Value.slice (some ⟨ry, 0, none⟩) (Cmp.trimmed (Cmp.pad m Y) 12) (Cmp.trimmed (Cmp.pad m Y) 12)); refine (bitsAre' dy ry (Cmp.pad m Y) _ ?_).mono ?_; exact hby16 _; rintro e w' ⟨rfl, rfl⟩))
          all_goals
            go_wp2
            go_ret
            exact ⟨rfl, by repeat (first | exact hB16 _ _ | apply Below.drew)⟩
end Go.Proofs.Qxb6003719a
