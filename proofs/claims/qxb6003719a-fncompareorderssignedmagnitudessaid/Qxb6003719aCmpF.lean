/-
  The walks of nat.norm, SetBits, bigAbs, Sign, Bits.
-/
import Derived.Test.Qxb6003719aCmpE
import Derived.Test.Qxb6003719aCmpC
import Derived.Deep.RegionLaw
namespace Go.Proofs.Qxb6003719a
open Go.RowKit

/-- A big.Int, not negative, of n words that lie in block r. -/
def IsBig (w : World) (b r n : Nat) : Prop := w.heap[b]? = some (.cells #[.bool false, .slice (some ⟨r, 0, none⟩) n n] 53 (0, 0))
theorem IsBig.neg {w : World} {b r n : Nat} (h : IsBig w b r n) : w.cell? ⟨b, 0, none⟩ = some (.bool false) := by rw [cell_of_row w b 0 _ _ _ h]; rfl
theorem IsBig.abs {w : World} {b r n : Nat} (h : IsBig w b r n) : w.cell? ⟨b, 1, none⟩ = some (.slice (some ⟨r, 0, none⟩) n n) := by rw [cell_of_row w b 1 _ _ _ h]; rfl

set_option maxHeartbeats 400000 in
theorem norm_any (b n : Nat) (P : Nat → Nat) (w : World) (hn : n ≤ 12) (hr : w.rowIs b 26 n (wordRow P)) (ht : 0 < n → P (n - 1) ≠ 0) :
    Calls Try.prog 47 #[.slice (some ⟨b, 0, none⟩) n n] w fun e w' => e = .returned (.slice (some ⟨b, 0, none⟩) n n) ∧ w = w' := by
  cases n with
  | zero =>
    go_enter Try.func47, Try.ntmps47
    go_wp2
    refine wp_loop_rounds 1 ?_
    rw [rounds_succ]
    go_wp2
    go_ret
    exact ⟨rfl, rfl⟩
  | succ k =>
    have c0 : w.cell? ⟨b, k, none⟩ = some (.int .u64 ((P k : Nat) : Int)) := hr.cell (by omega)
    have hz : P k ≠ 0 := by simpa using ht (by omega)
    have hz' : (((P k : Nat) : Int) == 0) = false := beq_eq_false_iff_ne.2 (by omega)
    have hk : (0 : Int) < (k : Int) + 1 := by omega
    go_enter Try.func47, Try.ntmps47
    go_wp2
    refine wp_loop_rounds 1 ?_
    rw [rounds_succ]
    go_wp2
    go_ret
    exact ⟨rfl, rfl⟩

set_option maxHeartbeats 400000 in
/-- SetBits onto a fresh big.Int in block b. -/
theorem setBits_any (b r n : Nat) (P : Nat → Nat) (w : World) (hn : n ≤ 12) (hr : w.rowIs r 26 n (wordRow P)) (ht : 0 < n → P (n - 1) ≠ 0)
    (hb : w.heap[b]? = some (.cells #[.bool false, .slice none 0 0] 53 (0, 0))) :
    Calls Try.prog 39 #[.pointer (some ⟨b, 0, none⟩), .slice (some ⟨r, 0, none⟩) n n] w fun e w' => e = .returned (.pointer (some ⟨b, 0, none⟩)) ∧ Below b w w' ∧ IsBig w' b r n := by
  have c0 : w.cell? ⟨b, 0, none⟩ = some (.bool false) := by rw [cell_of_row w b 0 _ _ _ hb]; rfl
  have c1 : w.cell? ⟨b, 1, none⟩ = some (.slice none 0 0) := by rw [cell_of_row w b 1 _ _ _ hb]; rfl
  have f0 : w.frozen? ⟨b, 0, none⟩ = false := frozen_of_row w b 0 _ _ hb
  have f1 : w.frozen? ⟨b, 1, none⟩ = false := frozen_of_row w b 1 _ _ hb
  have HB : Hid (w.heap[b]? = some (.cells #[.bool false, .slice none 0 0] 53 (0, 0))) := hb
  clear hb
  go_enter Try.func39, Try.ntmps39
  go_wp2_with fail
  refine (norm_any r n P _ hn hr ht).mono ?_
  rintro e w' ⟨rfl, rfl⟩
  go_wp2
  go_ret
  refine ⟨rfl, ((Below.refl b w).setCell (p := ⟨b, 1, none⟩) (Nat.le_refl _) _).setCell (p := ⟨b, 0, none⟩) (Nat.le_refl _) _, ?_⟩
  unfold IsBig
  rw [heap_setCell_same _ b 0 _ _ _ (heap_setCell_same w b 1 _ _ _ HB.out)]
  rfl

theorem rangeRow {n : Nat} {P : Nat → Nat} {j : Nat} {v : Value} (hv : ((List.range n).map (wordRow P))[j]? = some v) : j < n ∧ v = wordRow P j := by
  have hl : j < n := by
    have := (List.getElem?_eq_some_iff.1 hv).1
    simpa using this
  rw [List.getElem?_map, List.getElem?_range hl] at hv
  exact ⟨hl, by simpa using hv.symm⟩
theorem oneRow (n : Nat) (P : Nat → Nat) : ∀ v ∈ (List.range n).map (wordRow P), v.oneCell' = true := fun v hv => by
  obtain ⟨j, _, rfl⟩ := List.mem_map.1 hv; rfl
theorem rowIs_range {w : World} {b n : Nat} {t : TypeId} {P : Nat → Nat} (h : w.heap[b]? = some (.cells (splice (List.replicate n (Value.int .u64 0)) 0 ((List.range n).map (wordRow P))).toArray t (0, 0))) : w.rowIs b t n (wordRow P) := by
  have e : splice (List.replicate n (Value.int .u64 0)) 0 ((List.range n).map (wordRow P)) = (List.range n).map (wordRow P) := by
    simp [splice]
  rw [e] at h
  refine ⟨_, h, by simp, fun i hi => ?_⟩
  rw [List.getElem?_toArray, List.getElem?_map, List.getElem?_range hi]; rfl

set_option maxHeartbeats 1000000 in
theorem bigAbs_any (b : Nat) (neg : Bool) (n : Nat) (P : Nat → Nat) (w : World) (hn : n ≤ 12) (hc : IsCoef w b neg n P) (ht : 0 < n → P (n - 1) ≠ 0) :
    Calls Try.prog 27 #[.pointer (some ⟨b, 0, none⟩)] w fun e w' => ∃ d r, e = .returned (.pointer (some ⟨d, 0, none⟩)) ∧ Below w.heap.size w w' ∧ w.heap.size ≤ r ∧ w.heap.size ≤ d ∧ IsBig w' d r n ∧ w'.rowIs r 26 n (wordRow P) := by
  have hlt := hc.lt
  have x1 := hc.len
  have x3 := hc.large
  have hn1 : (n : Int) ≤ 12 := by omega
  have hn0 : (0 : Int) ≤ (n : Int) := by omega
  have hmk := run_make_row' (P := Try.prog) 27 26 (.int .u64 0) 8 Try.underlying27 info26 rfl .i64 .i64 n (by omega) (by omega)
  have HG : Hid ((w.alloc (.cells (madeCells #[.int .u64 0] n) 26)).heap[w.heap.size]? = some (.cells (List.replicate n (Value.int .u64 0)).toArray 26 (0, 0))) := by
    show _ = _
    rw [heap_alloc_new, ← toList_madeCells_one]
  have HS : Hid (∀ j v, ((List.range n).map (wordRow P))[j]? = some v → (w.alloc (.cells (madeCells #[.int .u64 0] n) 26)).cell? ((⟨b, 2, none⟩ : Addr).add j) = some v) := fun j v hv => by
    obtain ⟨hj, rfl⟩ := rangeRow hv
    rw [Addr.add_lit, World.cell?_alloc_old _ _ _ (by show b ≠ w.heap.size; omega)]
    exact hc.word j (by omega)
  have hB0 : Below w.heap.size w (w.alloc (.cells (madeCells #[.int .u64 0] n) 26)) := (Below.refl _ _).alloc (Nat.le_refl _) _
  clear hc
  go_enter Try.func27, Try.ntmps27
  go_wp2
  clear hmk
  go_region_law (refine step_copy_splice rfl (.tmp 18) (.tmp 26) 27 27 rfl 26 Try.underlying27 infoSz26 (some ⟨w.heap.size, 0, none⟩) (some ⟨b, 2, none⟩) n n n 12 rfl rfl w.heap.size 0 (List.replicate n (Value.int .u64 0)) 26 HG.out ((List.range n).map (wordRow P)) (by simp) (fun _ => ⟨rfl, _, rfl, HS.out⟩) (by simp) (oneRow n P) w.heap.size w hB0.drew (Nat.le_refl _) ?_; intro w4 hg4 hb4)
  have hr4 := rowIs_range hg4.out
  have hz4 := hr4.lt
  have hs4 : w.heap.size ≤ w4.heap.size := hb4.size
  clear hg4 HG HS hB0 hlt
  go_wp2_with fail
  refine (setBits_any w4.heap.size w.heap.size n P _ hn (hr4.alloc _) ht (heap_alloc_new w4 _)).mono ?_
  rintro e w5 ⟨rfl, hb5, hi5⟩
  have hr5 : w5.rowIs w.heap.size 26 n (wordRow P) := (hr4.alloc _).of_block (hb5.block _ hz4)
  have hB : Below w.heap.size w w5 := (hb4.alloc hs4 _).trans (hb5.mono hs4)
  clear hb5 hb4 hr4
  go_wp2
  go_ret
  exact ⟨_, _, rfl, hB, Nat.le_refl _, hs4, hi5, hr5⟩

theorem zzBigAbs_any (b : Nat) (neg : Bool) (n : Nat) (P : Nat → Nat) (w : World) (hn : n ≤ 12) (hc : IsCoef w b neg n P) (ht : 0 < n → P (n - 1) ≠ 0) :
    Calls Try.prog 17 #[.pointer (some ⟨b, 0, none⟩)] w fun e w' => ∃ d r, e = .returned (.pointer (some ⟨d, 0, none⟩)) ∧ Below w.heap.size w w' ∧ w.heap.size ≤ r ∧ w.heap.size ≤ d ∧ IsBig w' d r n ∧ w'.rowIs r 26 n (wordRow P) := by
  go_enter Try.func17, Try.ntmps17
  go_wp2_with fail
  refine (bigAbs_any b neg n P _ hn hc ht).mono ?_
  rintro e w' ⟨d, r, rfl, h⟩
  go_wp2
  go_ret
  exact ⟨d, r, rfl, h⟩

theorem bigSign_any (d r n : Nat) (w : World) (hi : IsBig w d r n) :
    Calls Try.prog 18 #[.pointer (some ⟨d, 0, none⟩)] w fun e w' => e = .returned (.int .i64 (if n = 0 then 0 else 1)) ∧ w = w' := by
  have c0 := hi.neg
  have c1 := hi.abs
  by_cases hn : n = 0
  · subst hn
    go_enter Try.func18, Try.ntmps18
    go_wp2
    go_ret
    exact ⟨rfl, rfl⟩
  · have hn' : (((n : Nat) : Int) == 0) = false := beq_eq_false_iff_ne.2 (by omega)
    rw [if_neg hn]
    go_enter Try.func18, Try.ntmps18
    go_wp2
    go_ret
    exact ⟨rfl, rfl⟩

theorem bigBits_any (d r n : Nat) (w : World) (hi : IsBig w d r n) :
    Calls Try.prog 20 #[.pointer (some ⟨d, 0, none⟩)] w fun e w' => e = .returned (.slice (some ⟨r, 0, none⟩) n n) ∧ w = w' := by
  have c1 := hi.abs
  go_enter Try.func20, Try.ntmps20
  go_wp2
  go_ret
  exact ⟨rfl, rfl⟩

set_option maxHeartbeats 400000 in
theorem bitsAre_any (r n : Nat) (P : Nat → Nat) (w : World) (hn : n ≤ 12) (hr : w.rowIs r 26 n (wordRow P)) (ht : 0 < n → P (n - 1) ≠ 0) (h0 : ∀ i, n ≤ i → i < 12 → P i = 0) :
    Calls Try.prog 19 #[.slice (some ⟨r, 0, none⟩) n n, .agg (arr12 P)] w fun e w' => e = .returned (.bool true) ∧ w' = w.alloc (.cells (arr12 P) 32) := by
  have hn1 : ¬ (12 : Int) < (n : Int) := by omega
  by_cases hz : n = 0
  · subst hz
    go_enter Try.func19, Try.ntmps19
    go_wp2
    go_loop [5] (fun i => ∃ k : Nat, k ≤ 12 ∧ i = .int .i64 k) (fun i => 12 - (intOf i).toNat)
    case atStart => exact ⟨0, Nat.zero_le _, rfl⟩
    case round =>
      obtain ⟨k, hk, rfl⟩ := hrel
      by_cases hlt : k < 12
      · have hk1 : (k : Int) < 12 := by omega
        have g1 : (w.alloc (.cells (arr12 P) 32)).cell? ⟨w.heap.size, k, none⟩ = some (.int .u64 0) := by
          rw [(row12_of P (heap_alloc_new w (.cells (arr12 P) 32))).cell hlt]; simp [wordRow, h0 k (by omega) hlt]
        have hk2 : ¬ (k : Int) < 0 := by omega
        go_wp2
        go_round
        case rel => exact ⟨k + 1, by omega, by go_num⟩
        case measure => simp [intOf]; omega
      · go_wp2
        go_ret
        exact ⟨rfl, rfl⟩
  · obtain ⟨m, rfl⟩ : ∃ m, n = m + 1 := ⟨n - 1, by omega⟩
    have hm0 : (0 : Int) < (m : Int) + 1 := by omega
    have g0 : ∀ o, (w.alloc o).cell? ⟨r, m, none⟩ = some (.int .u64 ((P m : Nat) : Int)) := fun o => (hr.alloc o).cell (by omega)
    have hz' : (((P m : Nat) : Int) == 0) = false := beq_eq_false_iff_ne.2 (by have := ht (by omega); simp at this; omega)
    go_enter Try.func19, Try.ntmps19
    go_wp2
    clear g0 hz'
    go_loop [5] (fun i => ∃ k : Nat, k ≤ 12 ∧ i = .int .i64 k) (fun i => 12 - (intOf i).toNat)
    case atStart => exact ⟨0, Nat.zero_le _, rfl⟩
    case round =>
      obtain ⟨k, hk, rfl⟩ := hrel
      by_cases hlt : k < 12
      · have hk1 : (k : Int) < 12 := by omega
        have g1 : (w.alloc (.cells (arr12 P) 32)).cell? ⟨w.heap.size, k, none⟩ = some (.int .u64 ((P k : Nat) : Int)) := (row12_of P (heap_alloc_new w (.cells (arr12 P) 32))).cell hlt
        by_cases hkm : k < m + 1
        · have g2 : (w.alloc (.cells (arr12 P) 32)).cell? ⟨r, k, none⟩ = some (.int .u64 ((P k : Nat) : Int)) := (hr.alloc _).cell hkm
          have hk2 : (k : Int) < (m : Int) + 1 := by omega
          go_wp2
          go_round
          case rel => exact ⟨k + 1, by omega, by go_num⟩
          case measure => simp [intOf]; omega
        · have hk2 : ¬ (k : Int) < (m : Int) + 1 := by omega
          rw [h0 k (by omega) hlt] at g1
          go_wp2
          go_round
          case rel => exact ⟨k + 1, by omega, by go_num⟩
          case measure => simp [intOf]; omega
      · go_wp2
        go_ret
        exact ⟨rfl, rfl⟩
end Go.Proofs.Qxb6003719a
