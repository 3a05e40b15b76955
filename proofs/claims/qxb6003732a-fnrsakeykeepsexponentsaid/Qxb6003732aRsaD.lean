/-
  The walk of cloneBytes_rootg2.
-/
import Derived.Test.Qxb6003732aRsaC
import Derived.Laws.CopyOwn
namespace Go.Proofs.Qxb6003732a
open Go.RowKit

theorem infoSz5 : (Try.prog.info? 5).map (·.size) = some 1 := by kernel_rfl

theorem rangeRow {n : Nat} {P : Nat → Int} {j : Nat} {v : Value} (hv : ((List.range n).map (numRow .u8 P))[j]? = some v) : j < n ∧ v = numRow .u8 P j := by
  have hl : j < n := by
    have := (List.getElem?_eq_some_iff.1 hv).1
    simpa using this
  rw [List.getElem?_map, List.getElem?_range hl] at hv
  exact ⟨hl, by simpa using hv.symm⟩
theorem oneRow (n : Nat) (P : Nat → Int) : ∀ v ∈ (List.range n).map (numRow .u8 P), v.oneCell' = true := fun v hv => by
  obtain ⟨j, _, rfl⟩ := List.mem_map.1 hv; rfl
theorem rowIs_range {w : World} {b n : Nat} {t : TypeId} {P : Nat → Int} (h : w.heap[b]? = some (.cells (splice (List.replicate n (Value.int .u8 0)) 0 ((List.range n).map (numRow .u8 P))).toArray t (0, 0))) : w.rowIs b t n (numRow .u8 P) := by
  have e : splice (List.replicate n (Value.int .u8 0)) 0 ((List.range n).map (numRow .u8 P)) = (List.range n).map (numRow .u8 P) := by
    simp [splice]
  rw [e] at h
  refine ⟨_, h, by simp, fun i hi => ?_⟩
  rw [List.getElem?_toArray, List.getElem?_map, List.getElem?_range hi]; rfl

set_option maxHeartbeats 1000000 in
theorem cloneG2_any (a : Option Addr) (n c b off : Nat) (X : Nat → Int) (w : World) (hn : n ≤ 2000000) (hv : View .u8 w a n b off X) :
    Calls Try.prog 19 #[.slice a n c] w fun e w' => ∃ a' c', e = .returned (.slice a' n c') ∧ n ≤ c' ∧ c' ≤ 2000000 ∧ Below w.heap.size w w' ∧ View .u8 w' a' n w.heap.size 0 X := by
  have hnil := fun w => Lib.run_eql_slice_nil (P := Try.prog) w 22 5 a n c 0 0 Try.underlying22
  cases a with
  | none =>
    have hn0 : n = 0 := by
      by_cases h : 0 < n
      · have := hv.1 h; simp at this
      · omega
    subst hn0
    go_enter Try.func19, Try.ntmps19
    go_wp2
    go_ret
    exact ⟨none, 0, rfl, Nat.le_refl _, by omega, Below.refl _ _, fun h => by omega, fun i hi => by omega⟩
  | some ad =>
    have hmk := run_make_row' (P := Try.prog) 22 5 (.int .u8 0) 1 Try.underlying22 info5 rfl .i64 .i64 n (by omega) (by omega)
    have HG : Hid ((w.alloc (.cells (madeCells #[.int .u8 0] n) 5)).heap[w.heap.size]? = some (.cells (List.replicate n (Value.int .u8 0)).toArray 5 (0, 0))) := by
      show _ = _
      rw [heap_alloc_new, ← toList_madeCells_one]
    have HS : Hid (0 < n → ∃ ad', some ad = some ad' ∧ ∀ j v, ((List.range n).map (numRow .u8 X))[j]? = some v → (w.alloc (.cells (madeCells #[.int .u8 0] n) 5)).cell? (ad'.add j) = some v) := fun h0 => by
      have had := hv.1 h0
      refine ⟨⟨b, off, none⟩, had, fun j v hv' => ?_⟩
      obtain ⟨hj, rfl⟩ := rangeRow hv'
      have hc := hv.2 j hj
      have hlt := World.block_lt_of_cell? _ _ hc
      rw [Addr.add_lit, World.cell?_alloc_old _ _ _ (by have : b < w.heap.size := hlt; show b ≠ w.heap.size; omega)]
      exact hc
    have hB0 : Below w.heap.size w (w.alloc (.cells (madeCells #[.int .u8 0] n) 5)) := (Below.refl _ _).alloc (Nat.le_refl _) _
    clear hv
    go_enter Try.func19, Try.ntmps19
    go_wp2_with (refine wpList_copy_splice rfl (.tmp 9) (.tmp 10) 22 22 rfl 5 Try.underlying22 infoSz5 (some ⟨w.heap.size, 0, none⟩) (some ad) n n n c rfl rfl w.heap.size 0 (List.replicate n (Value.int .u8 0)) 5 HG.out ((List.range n).map (numRow .u8 X)) (by simp) (fun h => ⟨rfl, HS.out (by simpa using h)⟩) (by simp) (oneRow n X) w.heap.size w hB0 (Nat.le_refl _) ?_)
    intro w1 hg1 hb1
    have hr1 := rowIs_range hg1.out
    clear hg1 HG HS hB0 hmk hnil
    go_wp2
    go_ret
    exact ⟨_, n, rfl, Nat.le_refl _, hn, hb1, View.of_row hr1⟩
end Go.Proofs.Qxb6003732a
