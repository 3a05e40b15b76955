/-
  The walks of cloneUintsG2, toWordsG2, mulWord, shrWords, ZZMulWordG2, ZZShrWordsG2.
-/
import Derived.Test.Qxb6003719aBits
import Derived.Test.Qxb6003719aShrPlain
import Derived.Deep.OwnRows
import Derived.LoopTactic
import Derived.Lib.SliceRun
import Derived.WalkSpells
namespace Go.Proofs.Qxb6003719a
open Go.RowKit

theorem info23 : (Try.prog.info? 23).map (fun i => (i.zero, i.size, i.bytes)) = some (some (.int .u64 0), 1, 8) := by kernel_rfl
theorem info26 : (Try.prog.info? 26).map (fun i => (i.zero, i.size, i.bytes)) = some (some (.int .u64 0), 1, 8) := by kernel_rfl

/-- What is known of a slice of words that is read: n words X, the row from block b, offset off on. -/
def View (w : World) (a : Option Addr) (n b off : Nat) (X : Nat → Nat) : Prop :=
  (0 < n → a = some ⟨b, off, none⟩) ∧ ∀ i, i < n → w.cell? ⟨b, off + i, none⟩ = some (.int .u64 ((X i : Nat) : Int))

/-- The row of words. -/
def wordRow (X : Nat → Nat) : Nat → Value := fun i => .int .u64 ((X i : Nat) : Int)

theorem View.later {w w' : World} {a : Option Addr} {n b off : Nat} {X : Nat → Nat} (h : View w a n b off X) {B : Nat} (hb : Below B w w') (hB : w.heap.size ≤ B) : View w' a n b off X :=
  ⟨h.1, fun i hi => (hb.cell (p := ⟨b, off + i, none⟩) (Nat.lt_of_lt_of_le (World.block_lt_of_cell? _ _ (h.2 i hi)) hB)).trans (h.2 i hi)⟩
theorem View.of_row {w : World} {n b : Nat} {t : TypeId} {X : Nat → Nat} (h : w.rowIs b t n (wordRow X)) : View w (some ⟨b, 0, none⟩) n b 0 X :=
  ⟨fun _ => rfl, fun i hi => by rw [Nat.zero_add]; exact h.cell hi⟩

set_option maxHeartbeats 400000 in
theorem clone_any (a : Option Addr) (n c b off : Nat) (X : Nat → Nat) (w : World) (hn : n ≤ 5000) (hv : View w a n b off X) :
    Calls Try.prog 7 #[.slice a n c] w fun e w' => ∃ a' c', e = .returned (.slice a' n c') ∧ Below w.heap.size w w' ∧ View w' a' n w.heap.size 0 X := by
  have hnil := fun w => Lib.run_eql_slice_nil (P := Try.prog) w 22 23 a n c 0 0 Try.underlying22
  cases a with
  | none =>
    have hn0 : n = 0 := by
      by_cases h : 0 < n
      · have := hv.1 h; simp at this
      · omega
    subst hn0
    go_enter Try.func7, Try.ntmps7
    go_wp2
    go_ret
    exact ⟨none, 0, rfl, Below.refl _ _, fun h => by omega, fun i hi => by omega⟩
  | some ad =>
    have hmk := run_make_row' (P := Try.prog) 22 23 (.int .u64 0) 8 Try.underlying22 info23 rfl .i64 .i64 n (by omega) (by omega)
    go_enter Try.func7, Try.ntmps7
    go_wp2
    clear hmk hnil
    go_loopw [4] (fun i wr => ∃ k : Nat, k ≤ n ∧ i = .int .i64 k ∧ Below w.heap.size w wr ∧ wr.rowIs w.heap.size 23 n (fun j => .int .u64 ((if j < k then X j else 0 : Nat) : Int)))
      (fun i _ => n - (intOf i).toNat)
    case atStart => exact ⟨0, Nat.zero_le _, rfl, (Below.refl _ _).alloc (Nat.le_refl _) _, (World.rowIs_made w _ n 23).congr (fun i _ => by simp)⟩
    case round =>
      obtain ⟨k, hk, rfl, hb, hr⟩ := hrel
      by_cases hlt : k < n
      · obtain rfl : ad = ⟨b, off, none⟩ := by simpa using hv.1 (by omega)
        have c0 : wr.cell? ⟨b, off + k, none⟩ = some (.int .u64 ((X k : Nat) : Int)) := (hb.cell (p := ⟨b, off + k, none⟩) (World.block_lt_of_cell? _ _ (hv.2 k hlt))).trans (hv.2 k hlt)
        have c1 : wr.cell? ⟨w.heap.size, k, none⟩ = some (.int .u64 0) := by rw [hr.cell hlt]; simp
        have f1 : wr.frozen? ⟨w.heap.size, k, none⟩ = false := hr.frozen k
        have R : wr.rowIs w.heap.size 23 n (fun j => .int .u64 ((if j < k then X j else 0 : Nat) : Int)) := hr
        clear hr
        go_wp2
        go_roundw
        case rel =>
          refine ⟨k + 1, by omega, by go_num, hb.setCell (Nat.le_refl _) _, (R.set k _).congr fun j hj => ?_⟩
          by_cases e : j = k
          · subst e; simp
          · rw [if_neg e]; simp only [show (j < k + 1) = (j < k) from by simp; omega]
        case measure => simp [intOf]; omega
      · go_wp2
        go_ret
        refine ⟨_, _, rfl, hb, View.of_row (t := 23) (hr.congr fun j hj => ?_)⟩
        simp only [wordRow]
        rw [if_pos (by omega)]

theorem lt_succ_of_ne {j k : Nat} (e : j ≠ k) : (j < k + 1) = (j < k) := by simp; omega

set_option maxHeartbeats 400000 in
theorem toWords_any (a : Option Addr) (n c b off x : Nat) (X : Nat → Nat) (w : World) (hn : n ≤ 5000) (hx : x ≤ 5000) (hv : View w a n b off X) :
    Calls Try.prog 8 #[.slice a n c, .int .i64 x] w fun e w' => e = .returned (.slice (some ⟨w.heap.size, 0, none⟩) (n + x) (n + x)) ∧ Below w.heap.size w w' ∧ w'.heap.size = w.heap.size + 1 ∧ w'.rowIs w.heap.size 26 (n + x) (wordRow fun i => if i < n then X i else 0) := by
  have hmk0 := run_make_row' (P := Try.prog) 27 26 (.int .u64 0) 8 Try.underlying27 info26 rfl .i64 .i64 (n + x) (by omega) (by omega)
  have hmk : ∀ w, (Instr.makeSlice 27 (.int .i64 ((n : Int) + (x : Int))) (.int .i64 ((n : Int) + (x : Int)))).run Try.prog w = .ok (.slice (some ⟨w.heap.size, 0, none⟩) (n + x) (n + x)) (w.alloc (.cells (madeCells #[.int .u64 0] (n + x)) 26)) := by
    intro w; have := hmk0 w; simpa using this
  clear hmk0
  go_enter Try.func8, Try.ntmps8
  go_wp2
  clear hmk
  go_loopw [6] (fun i wr => ∃ k : Nat, k ≤ n ∧ i = .int .i64 k ∧ Below w.heap.size w wr ∧ wr.heap.size = w.heap.size + 1 ∧ wr.rowIs w.heap.size 26 (n + x) (wordRow fun j => if j < k then X j else 0))
    (fun i _ => n - (intOf i).toNat)
  case atStart => exact ⟨0, Nat.zero_le _, rfl, (Below.refl _ _).alloc (Nat.le_refl _) _, by simp, (World.rowIs_made w _ (n + x) 26).congr (fun i _ => by simp [wordRow])⟩
  case round =>
    obtain ⟨k, hk, rfl, hb, hz, hr⟩ := hrel
    by_cases hlt : k < n
    · obtain rfl := hv.1 (by omega)
      have c0 : wr.cell? ⟨b, off + k, none⟩ = some (.int .u64 ((X k : Nat) : Int)) := (hb.cell (p := ⟨b, off + k, none⟩) (World.block_lt_of_cell? _ _ (hv.2 k hlt))).trans (hv.2 k hlt)
      have c1 : wr.cell? ⟨w.heap.size, k, none⟩ = some (.int .u64 0) := by rw [hr.cell (by omega)]; simp [wordRow]
      have f1 : wr.frozen? ⟨w.heap.size, k, none⟩ = false := hr.frozen k
      have hkx : (k : Int) < (n : Int) + (x : Int) := by omega
      go_wp2
      go_roundw
      case rel =>
        refine ⟨k + 1, by omega, by go_num, hb.setCell (Nat.le_refl _) _, by simpa using hz, (hr.set k _).congr fun j hj => ?_⟩
        by_cases e : j = k
        · subst e; simp [wordRow]
        · rw [if_neg e]; simp only [wordRow, lt_succ_of_ne e]
      case measure => simp [intOf]; omega
    · go_wp2
      go_ret
      have hkn : k = n := by omega
      rw [hkn] at hr
      exact ⟨rfl, hb, hz, hr⟩

set_option maxHeartbeats 400000 in
theorem shr_any (b n s : Nat) (Y : Nat → Nat) (w : World) (hs : s < 64) (hn : n ≤ 5001) (hY : ∀ i, i < n → Y i < 18446744073709551616)
    (hrow : w.rowIs b 26 n (wordRow Y)) :
    Calls Try.prog 23 #[.slice (some ⟨b, 0, none⟩) n n, .int .u64 s] w fun e w' => e = .returned (.tuple #[]) ∧ Below b w w' ∧ w'.heap.size = w.heap.size ∧ w'.rowIs b 26 n (wordRow (Shr.shrAt s n Y)) := by
  go_enter Try.func23, Try.ntmps23
  go_wp2
  go_loopw [8] (fun i wr => ∃ k : Nat, k ≤ n ∧ i = .int .i64 k ∧ Below b w wr ∧ wr.heap.size = w.heap.size ∧ wr.rowIs b 26 n (wordRow fun j => if j < k then Shr.shrAt s n Y j else Y j))
    (fun i _ => n - (intOf i).toNat)
  case atStart => exact ⟨0, Nat.zero_le _, rfl, Below.refl _ _, rfl, by simpa [wordRow] using hrow⟩
  case round =>
    obtain ⟨k, hk, rfl, hb, hz, hr⟩ := hrel
    by_cases hlt : k < n
    · have c0 : wr.cell? ⟨b, k, none⟩ = some (.int .u64 ((Y k : Nat) : Int)) := by rw [hr.cell hlt]; simp [wordRow]
      have f0 : wr.frozen? ⟨b, k, none⟩ = false := hr.frozen k
      have y0 := hY k hlt
      by_cases hlt2 : k + 1 < n
      · have c1 : wr.cell? ⟨b, k + 1, none⟩ = some (.int .u64 ((Y (k + 1) : Nat) : Int)) := by rw [hr.cell hlt2]; simp only [wordRow]; rw [if_neg (by omega)]
        have y1 := hY (k + 1) hlt2
        go_wp2
        go_roundw
        case rel =>
          refine ⟨k + 1, by omega, by go_num, hb.setCell (Nat.le_refl _) _, by simpa using hz, (hr.set k _).congr fun j hj => ?_⟩
          by_cases e : j = k
          · subst e; simp only [if_true, wordRow]; rw [if_pos (by omega), Shr.or_step s _ _ hs y0]; simp only [Shr.shrAt, if_pos hlt2]
          · rw [if_neg e]; simp only [wordRow, lt_succ_of_ne e]
        case measure => simp [intOf]; omega
      · go_wp2
        go_roundw
        case rel =>
          refine ⟨k + 1, by omega, by go_num, hb.setCell (Nat.le_refl _) _, by simpa using hz, (hr.set k _).congr fun j hj => ?_⟩
          by_cases e : j = k
          · subst e; simp only [if_true, wordRow]; rw [if_pos (by omega), Shr.or_zero s _ y0]; simp only [Shr.shrAt, if_neg hlt2, Nat.add_zero]
          · rw [if_neg e]; simp only [wordRow, lt_succ_of_ne e]
        case measure => simp [intOf]; omega
    · go_wp2
      go_end0
      have hkn : k = n := by omega
      rw [hkn] at hr
      refine ⟨rfl, hb, hz, hr.congr fun j hj => ?_⟩
      simp only [wordRow]; rw [if_pos hj]

theorem mul_step (y m c : Nat) (hy : y < 18446744073709551616) (hm : m < 18446744073709551616) (hc : c < 18446744073709551616) :
    ((y : Int) * (m : Int) % 18446744073709551616 + (c : Int)) % 18446744073709551616 = (((y * m + c) % 18446744073709551616 : Nat) : Int) ∧
    (y : Int) * (m : Int) / 18446744073709551616 + ((y : Int) * (m : Int) % 18446744073709551616 + (c : Int)) / 18446744073709551616 = (((y * m + c) / 18446744073709551616 : Nat) : Int) ∧
    (y * m + c) / 18446744073709551616 < 18446744073709551616 := by
  have h : y * m ≤ 18446744073709551615 * 18446744073709551615 := Nat.mul_le_mul (by omega) (by omega)
  rw [← Int.natCast_mul]
  generalize y * m = t at *
  omega

set_option maxHeartbeats 400000 in
theorem mulWord_any (b n m : Nat) (Y : Nat → Nat) (w : World) (hm : m < 18446744073709551616) (hn : n ≤ 5001) (hY : ∀ i, i < n → Y i < 18446744073709551616)
    (hrow : w.rowIs b 26 n (wordRow Y)) :
    Calls Try.prog 22 #[.slice (some ⟨b, 0, none⟩) n n, .int .u64 m] w fun e w' => e = .returned (.int .u64 ((Shr.car m Y n : Nat) : Int)) ∧ Below b w w' ∧ w'.heap.size = w.heap.size ∧ w'.rowIs b 26 n (wordRow (Shr.mulAt m Y)) := by
  go_enter Try.func22, Try.ntmps22
  go_wp2
  go_loopw [5, 12] (fun c i wr => ∃ k : Nat, k ≤ n ∧ c = .int .u64 ((Shr.car m Y k : Nat) : Int) ∧ i = .int .i64 k ∧ Below b w wr ∧ wr.heap.size = w.heap.size ∧ wr.rowIs b 26 n (wordRow fun j => if j < k then Shr.mulAt m Y j else Y j))
    (fun _ i _ => n - (intOf i).toNat)
  case atStart => exact ⟨0, Nat.zero_le _, rfl, rfl, Below.refl _ _, rfl, by simpa [wordRow] using hrow⟩
  case round =>
    obtain ⟨k, hk, rfl, rfl, hb, hz, hr⟩ := hrel
    by_cases hlt : k < n
    · have c0 : wr.cell? ⟨b, k, none⟩ = some (.int .u64 ((Y k : Nat) : Int)) := by rw [hr.cell hlt]; simp [wordRow]
      have f0 : wr.frozen? ⟨b, k, none⟩ = false := hr.frozen k
      have y0 := hY k hlt
      have hcl := Shr.car_lt m Y hm n hY k (by omega)
      have st := mul_step (Y k) m (Shr.car m Y k) y0 hm hcl
      have hmod : 0 ≤ (Y k : Int) * (m : Int) % 18446744073709551616 := by omega
      go_wp2_with (first
        | (go_at_call 34; refine (mul_any (Y k : Int) (m : Int) (by omega) (by omega) (by omega) (by omega) _).mono ?_; rintro e w' ⟨rfl, rfl⟩)
        | (go_at_call 35; refine (add_any ((Y k : Int) * (m : Int) % 18446744073709551616) (Shr.car m Y k : Int) hmod (by omega) _).mono ?_; rintro e w' ⟨rfl, rfl⟩))
      go_roundw
      case rel =>
        refine ⟨k + 1, by omega, ?_, by go_num, hb.setCell (Nat.le_refl _) _, by simpa using hz, (hr.set k _).congr fun j hj => ?_⟩
        · exact congrArg (Value.int .u64) (by simp [Shr.car])
        by_cases e : j = k
        · subst e; simp only [if_true, wordRow]; rw [if_pos (by omega)]; exact congrArg (Value.int .u64) (by simp [Shr.mulAt])
        · rw [if_neg e]; simp only [wordRow, lt_succ_of_ne e]
      case measure => simp [intOf]; omega
    · go_wp2
      go_ret
      have hkn : k = n := by omega
      rw [hkn] at hr
      refine ⟨by rw [hkn]; rfl, hb, hz, hr.congr fun j hj => ?_⟩
      simp only [wordRow]; rw [if_pos hj]

theorem zzMul_any (b n m : Nat) (Y : Nat → Nat) (w : World) (hm : m < 18446744073709551616) (hn : n ≤ 5001) (hY : ∀ i, i < n → Y i < 18446744073709551616)
    (hrow : w.rowIs b 26 n (wordRow Y)) :
    Calls Try.prog 9 #[.slice (some ⟨b, 0, none⟩) n n, .int .u64 m] w fun e w' => e = .returned (.int .u64 ((Shr.car m Y n : Nat) : Int)) ∧ Below b w w' ∧ w'.heap.size = w.heap.size ∧ w'.rowIs b 26 n (wordRow (Shr.mulAt m Y)) := by
  go_enter Try.func9, Try.ntmps9
  go_wp2_with fail
  refine (mulWord_any b n m Y _ hm hn hY hrow).mono ?_
  rintro e w' ⟨rfl, h⟩
  go_wp2
  go_ret
  exact ⟨rfl, h⟩

theorem zzShr_any (b n s : Nat) (Y : Nat → Nat) (w : World) (hs : s < 64) (hn : n ≤ 5001) (hY : ∀ i, i < n → Y i < 18446744073709551616)
    (hrow : w.rowIs b 26 n (wordRow Y)) :
    Calls Try.prog 10 #[.slice (some ⟨b, 0, none⟩) n n, .int .u64 s] w fun e w' => e = .returned (.tuple #[]) ∧ Below b w w' ∧ w'.heap.size = w.heap.size ∧ w'.rowIs b 26 n (wordRow (Shr.shrAt s n Y)) := by
  go_enter Try.func10, Try.ntmps10
  go_wp2_with fail
  refine (shr_any b n s Y _ hs hn hY hrow).mono ?_
  rintro e w' ⟨rfl, h⟩
  go_wp2
  go_end0
  exact ⟨rfl, h⟩
end Go.Proofs.Qxb6003719a
