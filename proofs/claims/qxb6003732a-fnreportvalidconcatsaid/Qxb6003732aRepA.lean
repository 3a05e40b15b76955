/-
  The walks of zzReportOf, (*Report).Valid.
-/
import Derived.Test.Qxb6003732aRows2
import Derived.Test.Qxb6003732aRepPlain
import Derived.Laws.MakeOwn
namespace Go.Proofs.Qxb6003732a
open Go.RowKit

theorem info59 : (Try.prog.info? 59).map (fun i => (i.zero, i.size, i.bytes)) = some (some (.agg #[.int .i64 0, .int .i64 0, .string ByteArray.empty]), 3, 32) := by kernel_rfl

/-- The cells of n findings of these severities. -/
def findRow (A : Nat → Int) : Nat → Value := fun j => if j % 3 = 0 then .int .i64 (A (j / 3)) else if j % 3 = 1 then .int .i64 0 else .string ByteArray.empty

theorem run_make_find (n : Nat) (hn : n ≤ 100000) (w : World) :
    (Instr.makeSlice 53 (.int .i64 (n : Int)) (.int .i64 (n : Int))).run Try.prog w = .ok (.slice (some ⟨w.heap.size, 0, none⟩) n n) (w.alloc (.cells (madeCells #[.int .i64 0, .int .i64 0, .string ByteArray.empty] (n * 3)) 59)) := by
  obtain ⟨i, hi, hzz⟩ := Option.map_eq_some_iff.1 info59
  simp only [Prod.mk.injEq] at hzz
  obtain ⟨hz, hs, hb⟩ := hzz
  have hr := run_make (P := Try.prog) w 53 59 i _ Try.underlying53 hi hz .i64 .i64 n n (by omega) (Int.le_refl _) (by rw [hb]; omega) (by omega)
  simp only [Int.toNat_natCast, hs] at hr
  exact hr

theorem made_find (n : Nat) (w : World) : (w.alloc (.cells (madeCells #[.int .i64 0, .int .i64 0, .string ByteArray.empty] (n * 3)) 59)).rowIs w.heap.size 59 (n * 3) (findRow fun _ => 0) :=
  ⟨_, heap_alloc_new w _, size_madeCells _ _, fun i hi => by
    simp only [madeCells]
    rw [Array.getElem?_map, Array.getElem?_range, if_pos hi]
    have h3 : i % 3 = 0 ∨ i % 3 = 1 ∨ i % 3 = 2 := by omega
    rcases h3 with h | h | h <;> simp [findRow, h]⟩

/-- A report of n findings of the severities A. -/
def IsReport (w : World) (d n : Nat) (A : Nat → Int) : Prop :=
  ∃ a r, w.cell? ⟨d, 1, none⟩ = some (.slice a n n) ∧ (0 < n → a = some ⟨r, 0, none⟩ ∧ w.rowIs r 59 (n * 3) (findRow A))

set_option maxHeartbeats 400000 in
theorem reportOf_any (a : Option Addr) (n c b off : Nat) (X : Nat → Int) (w : World) (hn : n ≤ 100000) (hv : View .i64 w a n b off X) :
    Calls Try.prog 16 #[.slice a n c] w fun e w' => ∃ d, e = .returned (.pointer (some ⟨d, 0, none⟩)) ∧ Below w.heap.size w w' ∧ IsReport w' d n X := by
  by_cases hz : n = 0
  · subst hz
    go_enter Try.func16, Try.ntmps16
    go_wp2
    go_ret
    exact ⟨_, rfl, (Below.refl _ _).alloc (Nat.le_refl _) _, none, 0, by rw [cell_of_row _ _ _ _ _ _ (heap_alloc_new w _)]; rfl, fun h => by omega⟩
  · obtain rfl := hv.1 (by omega)
    have hmk := run_make_find n hn
    have hn1 : (0 : Int) < (n : Int) := by omega
    go_enter Try.func16, Try.ntmps16
    go_wp2
    clear hmk
    go_loopw [5] (fun i wr => ∃ k : Nat, k ≤ n ∧ i = .int .i64 k ∧ Below w.heap.size w wr ∧ Hid (wr.heap[w.heap.size]? = some (.cells #[.int .i64 2, .slice none 0 0] 55 (0, 0))) ∧ wr.rowIs (w.heap.size + 1) 59 (n * 3) (findRow fun j => if j < k then X j else 0))
      (fun i _ => n - (intOf i).toNat)
    case atStart =>
      refine ⟨0, Nat.zero_le _, rfl, ((Below.refl _ _).alloc (Nat.le_refl _) _).alloc (by simp) _, ?_, ?_⟩
      · exact heap_alloc2_old w _ _
      · have h := made_find n (w.alloc (.cells #[.int .i64 2, .slice none 0 0] 55))
        simp at h
        simpa using h
    case round =>
      obtain ⟨k, hk, rfl, hb, HR, hr⟩ := hrel
      by_cases hlt : k < n
      · have hk1 : (k : Int) < (n : Int) := by omega
        have c0 : wr.cell? ⟨b, off + k, none⟩ = some (.int .i64 (X k)) := (hb.cell (p := ⟨b, off + k, none⟩) (World.block_lt_of_cell? _ _ (hv.2 k hlt))).trans (hv.2 k hlt)
        have g0 : wr.cell? ⟨w.heap.size + 1, k * 3, none⟩ = some (.int .i64 0) := by rw [hr.cell (by omega)]; simp [findRow]
        have g1 : wr.cell? ⟨w.heap.size + 1, k * 3 + 1, none⟩ = some (.int .i64 0) := by
          rw [hr.cell (by omega)]; simp only [findRow]; rw [if_neg (by omega), if_pos (by omega)]
        have g2 : wr.cell? ⟨w.heap.size + 1, k * 3 + 2, none⟩ = some (.string ByteArray.empty) := by
          rw [hr.cell (by omega)]; simp only [findRow]; rw [if_neg (by omega), if_neg (by omega)]
        have f0 : wr.frozen? ⟨w.heap.size + 1, k * 3, none⟩ = false := hr.frozen _
        have f1 : wr.frozen? ⟨w.heap.size + 1, k * 3 + 1, none⟩ = false := hr.frozen _
        have f2 : wr.frozen? ⟨w.heap.size + 1, k * 3 + 2, none⟩ = false := hr.frozen _
        go_wp2
        go_roundw
        case rel =>
          refine ⟨k + 1, by omega, by go_num, ((hb.setCell (by simp) _).setCell (by simp) _).setCell (by simp) _, ?_, (((hr.set (k * 3) _).set (k * 3 + 1) _).set (k * 3 + 2) _).congr fun j hj => ?_⟩
          · show _ = _
            rw [Below.heap_setCell _ _ _ _ (by simp), Below.heap_setCell _ _ _ _ (by simp), Below.heap_setCell _ _ _ _ (by simp)]
            exact HR.out
          · by_cases e2 : j = k * 3 + 2
            · subst e2; rw [if_pos rfl]; simp only [findRow]; rw [if_neg (by omega), if_neg (by omega)]; rfl
            · rw [if_neg e2]
              by_cases e1 : j = k * 3 + 1
              · subst e1; rw [if_pos rfl]; simp only [findRow]; rw [if_neg (by omega), if_pos (by omega)]
              · rw [if_neg e1]
                by_cases e0 : j = k * 3
                · subst e0; rw [if_pos rfl]; simp only [findRow]; rw [if_pos (by omega), if_pos (by omega), show k * 3 / 3 = k by omega]
                · rw [if_neg e0]; simp only [findRow, lt_succ_of_ne (show j / 3 ≠ k by omega)]
        case measure => simp [intOf]; omega
      · have hkn : k = n := by omega
        subst hkn
        have r1 : wr.cell? ⟨w.heap.size, 1, none⟩ = some (.slice none 0 0) := by rw [cell_of_row _ _ _ _ _ _ HR.out]; rfl
        have f1 : wr.frozen? ⟨w.heap.size, 1, none⟩ = false := frozen_of_row _ _ _ _ _ HR.out
        go_wp2
        go_ret
        refine ⟨_, rfl, hb.setCell (Nat.le_refl _) _, _, w.heap.size + 1, ?_, fun _ => ⟨rfl, (hr.setOther (by simp) _).congr fun j hj => ?_⟩⟩
        · rw [cell_of_row _ _ _ _ _ _ (heap_setCell_same wr w.heap.size 1 _ _ _ HR.out)]; rfl
        · simp only [findRow]; rw [if_pos (show j / 3 < k by omega)]

set_option maxHeartbeats 400000 in
theorem valid_any (d n : Nat) (A : Nat → Int) (w : World) (hn : n ≤ 100000) (hr : IsReport w d n A) :
    Calls Try.prog 17 #[.pointer (some ⟨d, 0, none⟩)] w fun e w' => e = .returned (.bool (Rep.valid A n)) ∧ Below w.heap.size w w' := by
  obtain ⟨a, r, hd, hrow⟩ := hr
  go_enter Try.func17, Try.ntmps17
  go_wp2
  go_loopw [10] (fun i wr => ∃ k : Nat, k ≤ n ∧ i = .int .i64 k ∧ Hid (Rep.valid A k = true) ∧ Below w.heap.size w wr) (fun i _ => n - (intOf i).toNat)
  case atStart => exact ⟨0, Nat.zero_le _, rfl, rfl, Below.refl _ _⟩
  case round =>
    obtain ⟨k, hk, rfl, HV, hb⟩ := hrel
    by_cases hlt : k < n
    · obtain ⟨ha, hrow⟩ := hrow (by omega)
      rw [ha]
      have hk1 : (k : Int) < (n : Int) := by omega
      have hw : r < w.heap.size := hrow.lt
      have hrow' : wr.rowIs r 59 (n * 3) (findRow A) := hrow.of_block (hb.block r hw)
      have g0 : wr.cell? ⟨r, k * 3, none⟩ = some (.int .i64 (A k)) := by rw [hrow'.cell (by omega)]; simp [findRow]
      have g1 : wr.cell? ⟨r, k * 3 + 1, none⟩ = some (.int .i64 0) := by
        rw [hrow'.cell (by omega)]; simp only [findRow]; rw [if_neg (by omega), if_pos (by omega)]
      have g2 : wr.cell? ⟨r, k * 3 + 2, none⟩ = some (.string ByteArray.empty) := by
        rw [hrow'.cell (by omega)]; simp only [findRow]; rw [if_neg (by omega), if_neg (by omega)]
      by_cases h1 : A k = 1
      · rw [h1] at g0
        have HE : Hid (Rep.valid A n = false) := Rep.valid_no hlt h1
        go_wp2
        go_ret
        exact ⟨by rw [HE.out]; rfl, hb.alloc hb.size _⟩
      · have h1' : (A k == 1) = false := beq_eq_false_iff_ne.2 h1
        have HE : Hid (Rep.valid A (k + 1) = true) := by
          show _ = _
          rw [Rep.valid, HV.out, Bool.true_and, bne_iff_ne]; exact h1
        go_wp2
        go_roundw
        case rel => exact ⟨k + 1, by omega, by go_num, HE, hb.alloc hb.size _⟩
        case measure => simp [intOf]; omega
    · have hkn : k = n := by omega
      subst hkn
      go_wp2
      go_ret
      exact ⟨by rw [HV.out]; rfl, hb⟩
end Go.Proofs.Qxb6003732a
