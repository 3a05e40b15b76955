/-
  Rows of numbers: what is read, what the call makes. And zzCloneInts.
-/
import Derived.Test.Qxb6003732aRows
import Derived.WalkKit
import Derived.ProofKit
import Derived.Deep.OwnRows
import Derived.LoopTactic
import Derived.Lib.SliceRun
import Derived.WalkSpells
import Derived.WalkSmall
namespace Go.Proofs.Qxb6003732a
open Go.RowKit

theorem info3 : (Try.prog.info? 3).map (fun i => (i.zero, i.size, i.bytes)) = some (some (.int .i64 0), 1, 8) := by kernel_rfl
theorem info5 : (Try.prog.info? 5).map (fun i => (i.zero, i.size, i.bytes)) = some (some (.int .u8 0), 1, 1) := by kernel_rfl

/-- What is known of a slice of numbers that is read: n of them, X, from block b, offset off on. -/
def View (k : IntKind) (w : World) (a : Option Addr) (n b off : Nat) (X : Nat → Int) : Prop :=
  (0 < n → a = some ⟨b, off, none⟩) ∧ ∀ i, i < n → w.cell? ⟨b, off + i, none⟩ = some (.int k (X i))

/-- The row of numbers. -/
def numRow (k : IntKind) (X : Nat → Int) : Nat → Value := fun i => .int k (X i)

theorem View.later {k : IntKind} {w w' : World} {a : Option Addr} {n b off : Nat} {X : Nat → Int} (h : View k w a n b off X) {B : Nat} (hb : Below B w w') (hB : w.heap.size ≤ B) : View k w' a n b off X :=
  ⟨h.1, fun i hi => (hb.cell (p := ⟨b, off + i, none⟩) (Nat.lt_of_lt_of_le (World.block_lt_of_cell? _ _ (h.2 i hi)) hB)).trans (h.2 i hi)⟩
theorem View.of_row {k : IntKind} {w : World} {n b : Nat} {t : TypeId} {X : Nat → Int} (h : w.rowIs b t n (numRow k X)) : View k w (some ⟨b, 0, none⟩) n b 0 X :=
  ⟨fun _ => rfl, fun i hi => by rw [Nat.zero_add]; exact h.cell hi⟩
theorem lt_succ_of_ne {j k : Nat} (e : j ≠ k) : (j < k + 1) = (j < k) := by simp; omega

set_option maxHeartbeats 400000 in
theorem cloneInts_any (a : Option Addr) (n c b off : Nat) (X : Nat → Int) (w : World) (hn : n ≤ 100000) (hv : View .i64 w a n b off X) :
    Calls Try.prog 15 #[.slice a n c] w fun e w' => ∃ a' c', e = .returned (.slice a' n c') ∧ Below w.heap.size w w' ∧ View .i64 w' a' n w.heap.size 0 X := by
  have hnil := fun w => Lib.run_eql_slice_nil (P := Try.prog) w 32 3 a n c 0 0 Try.underlying32
  cases a with
  | none =>
    have hn0 : n = 0 := by
      by_cases h : 0 < n
      · have := hv.1 h; simp at this
      · omega
    subst hn0
    go_enter Try.func15, Try.ntmps15
    go_wp2
    go_ret
    exact ⟨none, 0, rfl, Below.refl _ _, fun h => by omega, fun i hi => by omega⟩
  | some ad =>
    have hmk := run_make_row' (P := Try.prog) 32 3 (.int .i64 0) 8 Try.underlying32 info3 rfl .i64 .i64 n (by omega) (by omega)
    go_enter Try.func15, Try.ntmps15
    go_wp2
    clear hmk hnil
    go_loopw [4] (fun i wr => ∃ k : Nat, k ≤ n ∧ i = .int .i64 k ∧ Below w.heap.size w wr ∧ wr.rowIs w.heap.size 3 n (numRow .i64 fun j => if j < k then X j else 0))
      (fun i _ => n - (intOf i).toNat)
    case atStart => exact ⟨0, Nat.zero_le _, rfl, (Below.refl _ _).alloc (Nat.le_refl _) _, (World.rowIs_made w _ n 3).congr (fun i _ => by simp [numRow])⟩
    case round =>
      obtain ⟨k, hk, rfl, hb, hr⟩ := hrel
      by_cases hlt : k < n
      · obtain rfl : ad = ⟨b, off, none⟩ := by simpa using hv.1 (by omega)
        have c0 : wr.cell? ⟨b, off + k, none⟩ = some (.int .i64 (X k)) := (hb.cell (p := ⟨b, off + k, none⟩) (World.block_lt_of_cell? _ _ (hv.2 k hlt))).trans (hv.2 k hlt)
        have c1 : wr.cell? ⟨w.heap.size, k, none⟩ = some (.int .i64 0) := by rw [hr.cell hlt]; simp [numRow]
        have f1 : wr.frozen? ⟨w.heap.size, k, none⟩ = false := hr.frozen k
        go_wp2
        go_roundw
        case rel =>
          refine ⟨k + 1, by omega, by go_num, hb.setCell (Nat.le_refl _) _, (hr.set k _).congr fun j hj => ?_⟩
          by_cases e : j = k
          · subst e; simp [numRow]
          · rw [if_neg e]; simp only [numRow, lt_succ_of_ne e]
        case measure => simp [intOf]; omega
      · go_wp2
        go_ret
        refine ⟨_, _, rfl, hb, View.of_row (t := 3) (hr.congr fun j hj => ?_)⟩
        simp only [numRow]
        rw [if_pos (by omega)]
end Go.Proofs.Qxb6003732a
