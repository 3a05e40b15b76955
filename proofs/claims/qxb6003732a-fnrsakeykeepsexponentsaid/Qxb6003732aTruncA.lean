/-
  The walks of zzCloneBytes, slices.Clone at bytes, zzEqualBytes.
-/
import Derived.Test.Qxb6003732aRows2
import Derived.Test.Qxb6003732aTruncPlain
import Derived.Deep.QuietTactic
import Derived.BigQuiet
import Derived.RegionTactic
namespace Go.Proofs.Qxb6003732a
open Go.RowKit

/-- Bytes as natural numbers. -/
def nb (X : Nat → Nat) : Nat → Int := fun i => ((X i : Nat) : Int)

set_option maxHeartbeats 400000 in
theorem cloneBytes_any (a : Option Addr) (n c b off : Nat) (X : Nat → Int) (w : World) (hn : n ≤ 2000000) (hv : View .u8 w a n b off X) :
    Calls Try.prog 8 #[.slice a n c] w fun e w' => ∃ a' c', e = .returned (.slice a' n c') ∧ n ≤ c' ∧ c' ≤ 2000000 ∧ Below w.heap.size w w' ∧ View .u8 w' a' n w.heap.size 0 X := by
  have hnil := fun w => Lib.run_eql_slice_nil (P := Try.prog) w 22 5 a n c 0 0 Try.underlying22
  cases a with
  | none =>
    have hn0 : n = 0 := by
      by_cases h : 0 < n
      · have := hv.1 h; simp at this
      · omega
    subst hn0
    go_enter Try.func8, Try.ntmps8
    go_wp2
    go_ret
    exact ⟨none, 0, rfl, Nat.le_refl _, by omega, Below.refl _ _, fun h => by omega, fun i hi => by omega⟩
  | some ad =>
    have hmk := run_make_row' (P := Try.prog) 22 5 (.int .u8 0) 1 Try.underlying22 info5 rfl .i64 .i64 n (by omega) (by omega)
    go_enter Try.func8, Try.ntmps8
    go_wp2
    clear hmk hnil
    go_loopw [4] (fun i wr => ∃ k : Nat, k ≤ n ∧ i = .int .i64 k ∧ Below w.heap.size w wr ∧ wr.rowIs w.heap.size 5 n (numRow .u8 fun j => if j < k then X j else 0))
      (fun i _ => n - (intOf i).toNat)
    case atStart => exact ⟨0, Nat.zero_le _, rfl, (Below.refl _ _).alloc (Nat.le_refl _) _, (World.rowIs_made w _ n 5).congr (fun i _ => by simp [numRow])⟩
    case round =>
      obtain ⟨k, hk, rfl, hb, hr⟩ := hrel
      by_cases hlt : k < n
      · obtain rfl : ad = ⟨b, off, none⟩ := by simpa using hv.1 (by omega)
        have c0 : wr.cell? ⟨b, off + k, none⟩ = some (.int .u8 (X k)) := (hb.cell (p := ⟨b, off + k, none⟩) (World.block_lt_of_cell? _ _ (hv.2 k hlt))).trans (hv.2 k hlt)
        have c1 : wr.cell? ⟨w.heap.size, k, none⟩ = some (.int .u8 0) := by rw [hr.cell hlt]; simp [numRow]
        have f1 : wr.frozen? ⟨w.heap.size, k, none⟩ = false := hr.frozen k
        go_wp2
        go_roundw
        case rel =>
          refine ⟨k + 1, by omega, by go_num, hb.setCell (Nat.le_refl _) _, (hr.set k _).congr fun j hj => ?_⟩
          by_cases e : j = k
          · subst e; simp [numRow]
          · rw [if_neg e]; simp only [numRow, lt_succ_of_ne e]
        case measure => simp [intOf]; omega
      · go_wp2
        go_ret
        refine ⟨_, _, rfl, Nat.le_refl _, hn, hb, View.of_row (t := 5) (hr.congr fun j hj => ?_)⟩
        simp only [numRow]
        rw [if_pos (by omega)]

set_option maxHeartbeats 400000 in
theorem equalBytes_any (a d : Option Addr) (n c m c2 b off b2 off2 : Nat) (X Y : Nat → Int) (w : World) (hn : n ≤ 2000000) (hx : View .u8 w a n b off X) (hy : View .u8 w d m b2 off2 Y) :
    Calls Try.prog 12 #[.slice a n c, .slice d m c2] w fun e w' => (∃ v, e = .returned (.bool v) ∧ (v = true ↔ n = m ∧ ∀ i, i < n → X i = Y i)) ∧ Below w.heap.size w w' ∧ w'.heap = w.heap := by
  by_cases hnm : n = m
  · subst hnm
    go_enter Try.func12, Try.ntmps12
    go_wp2
    go_loopw [5] (fun i wr => ∃ k q : Nat, k ≤ n ∧ i = .int .i64 k ∧ Hid (∀ i, i < k → X i = Y i) ∧ wr = w.drewN q) (fun i _ => n - (intOf i).toNat)
    case atStart => exact ⟨0, 0, Nat.zero_le _, rfl, fun i hi => by omega, rfl⟩
    case round =>
      obtain ⟨k, q, hk, rfl, HT, rfl⟩ := hrel
      by_cases hlt : k < n
      · obtain rfl := hx.1 (by omega)
        obtain rfl := hy.1 (by omega)
        have g0 := hx.2 k hlt
        have g1 := hy.2 k hlt
        have hk1 : (k : Int) < (n : Int) := by omega
        by_cases hz : X k = Y k
        · have g0' : w.cell? ⟨b, off + k, none⟩ = some (.int .u8 (Y k)) := by rw [g0, hz]
          clear g0
          go_wp2
          go_quiet (fail)
          go_wp2
          go_roundw
          case rel => exact ⟨k + 1, _, by omega, by go_num, fun i hi => by
            by_cases e : i = k
            · rw [e]; exact hz
            · exact HT.out i (by omega), rfl⟩
          case measure => simp [intOf]; omega
        · have hz' : (X k != Y k) = true := by rw [bne_iff_ne]; exact hz
          go_wp2
          go_quiet (fail)
          go_wp2
          go_ret
          exact ⟨⟨false, rfl, by simp; exact ⟨k, hlt, hz⟩⟩, below_drewN (below_drewN (Below.refl _ _) _) _, rfl⟩
      · have hkn : k = n := by omega
        subst hkn
        go_wp2
        go_ret
        exact ⟨⟨true, rfl, by simpa using HT.out⟩, below_drewN (Below.refl _ _) _, rfl⟩
  · have hnm' : (((n : Nat) : Int) != ((m : Nat) : Int)) = true := by rw [bne_iff_ne]; omega
    go_enter Try.func12, Try.ntmps12
    go_wp2
    go_ret
    exact ⟨⟨false, rfl, by simp [hnm]⟩, Below.refl _ _, rfl⟩

/-- A row of the call's own whose first n cells are known. -/
def OwnRow (w : World) (g : Nat) (t : TypeId) (n : Nat) (f : Nat → Value) : Prop := ∃ N, n ≤ N ∧ ∃ F, w.rowIs g t N F ∧ ∀ i, i < n → F i = f i
theorem OwnRow.cell {w : World} {g n : Nat} {t : TypeId} {f : Nat → Value} (h : OwnRow w g t n f) {i : Nat} (hi : i < n) : w.cell? ⟨g, i, none⟩ = some (f i) := by
  obtain ⟨N, hN, F, hr, hf⟩ := h
  rw [hr.cell (by omega), hf i hi]
theorem OwnRow.frozen {w : World} {g n : Nat} {t : TypeId} {f : Nat → Value} (h : OwnRow w g t n f) (i : Nat) : w.frozen? ⟨g, i, none⟩ = false := by
  obtain ⟨N, hN, F, hr, hf⟩ := h
  exact hr.frozen i
theorem OwnRow.set {w : World} {g n : Nat} {t : TypeId} {f f' : Nat → Value} (h : OwnRow w g t n f) (k : Nat) (v : Value) (e : ∀ i, i < n → f' i = if i = k then v else f i) : OwnRow (w.setCell ⟨g, k, none⟩ v) g t n f' := by
  obtain ⟨N, hN, F, hr, hf⟩ := h
  refine ⟨N, hN, _, hr.set k v, fun i hi => ?_⟩
  rw [e i hi, hf i hi]
theorem OwnRow.of_block {w w' : World} {g n : Nat} {t : TypeId} {f : Nat → Value} (h : OwnRow w g t n f) (e : w'.heap[g]? = w.heap[g]?) : OwnRow w' g t n f := by
  obtain ⟨N, hN, F, hr, hf⟩ := h
  exact ⟨N, hN, F, hr.of_block e, hf⟩
theorem OwnRow.lt {w : World} {g n : Nat} {t : TypeId} {f : Nat → Value} (h : OwnRow w g t n f) : g < w.heap.size := by
  obtain ⟨N, hN, F, hr, hf⟩ := h
  exact hr.lt
theorem OwnRow.of_owns {w : World} {base g n cap : Nat} {t : TypeId} {xs : List Value} {f : Nat → Value} (h : w.ownsRow base t 1 (.slice (some ⟨g, 0, none⟩) n cap) n xs) (hf : ∀ i, i < n → xs[i]? = some (f i)) : OwnRow w g t n f := by
  obtain ⟨h1, h2⟩ := h
  rcases h2 with ⟨h2, _⟩ | ⟨g', cap', cur, hv, _, hg, hnc, _, hcs, ht⟩
  · simp at h2
  · simp only [Value.slice.injEq, Option.some.injEq, Addr.mk.injEq, and_true, true_and] at hv
    obtain ⟨rfl, rfl⟩ := hv
    refine ⟨cur.size, by omega, fun i => cur[i]?.getD undef, ⟨cur, hg, rfl, fun i hi => by simp [hi]⟩, fun i hi => ?_⟩
    have := hf i hi
    rw [← ht, List.getElem?_take_of_lt (by omega)] at this
    show cur[i]?.getD undef = f i
    rw [← Array.getElem?_toList, this]; rfl

set_option maxHeartbeats 400000 in
theorem clone_any (a : Option Addr) (n c b off : Nat) (X : Nat → Int) (w : World) (hn : n ≤ 2000000) (hv : View .u8 w a n b off X) :
    Calls Try.prog 34 #[.slice a n c] w fun e w' => ∃ a' c' g, e = .returned (.slice a' n c') ∧ n ≤ c' ∧ c' ≤ 9223372036854775807 ∧ Below w.heap.size w w' ∧ (0 < n → a' = some ⟨g, 0, none⟩ ∧ w.heap.size ≤ g ∧ OwnRow w' g 5 n (numRow .u8 X)) := by
  have hnil := fun w => Lib.run_eql_slice_nil (P := Try.prog) w 22 5 a n c 0 0 Try.underlying22
  cases a with
  | none =>
    have hn0 : n = 0 := by
      by_cases h : 0 < n
      · have := hv.1 h; simp at this
      · omega
    subst hn0
    go_enter Try.func34, Try.ntmps34
    go_wp2
    go_ret
    exact ⟨none, 0, 0, rfl, Nat.le_refl _, by omega, Below.refl _ _, fun h => by omega⟩
  | some ad =>
    obtain ⟨i0, hi, hz0, hz1, hz2⟩ := info_parts info5
    have hown0 : (w.alloc (.cells #[] 5)).ownsRow w.heap.size 5 1 (.slice (some ⟨w.heap.size, 0, none⟩) 0 0) 0 [] := World.ownsRow_made w #[] 0 (Nat.le_refl _) (by unfold maxLen; omega) (by simp)
    have hnews : ∀ j u, ((List.range n).map (numRow .u8 X))[j]? = some u → (w.alloc (.cells #[] 5)).cell? (ad.add j) = some u := fun j u hu => by
      have hl : j < n := by
        have := (List.getElem?_eq_some_iff.1 hu).1
        simpa using this
      rw [List.getElem?_map, List.getElem?_range hl] at hu
      obtain rfl : u = numRow .u8 X j := by simpa using hu.symm
      obtain rfl : ad = ⟨b, off, none⟩ := by simpa using hv.1 (by omega)
      rw [Addr.add_lit]
      exact (((Below.refl w.heap.size w).alloc (Nat.le_refl _) (.cells #[] 5)).cell (p := ⟨b, off + j, none⟩) (World.block_lt_of_cell? _ _ (hv.2 j hl))).trans (hv.2 j hl)
    have hone : ∀ u ∈ (List.range n).map (numRow .u8 X), u.oneCell' = true := fun u hu => by
      obtain ⟨j, _, rfl⟩ := List.mem_map.1 hu; rfl
    go_enter Try.func34, Try.ntmps34
    go_wp2_with (at_builtin; refine wpList_append_own _ rfl (.tmp 5) (.tmp 6) 22 rfl w.heap.size 5 i0 (.int .u8 0) 1 1 Try.underlying22 hi hz0 hz1 hz2 rfl (by decide) _ 0 [] rfl hown0 ad n c ((List.range n).map (numRow .u8 X)) rfl (by simp) hnews hone (by unfold maxLen; omega) (by omega) (by simp) ?_)
    intro v' w1 hown hgrow _
    have hB : Below w.heap.size w w1 := ((Below.refl _ _).alloc (Nat.le_refl _) _).grown hgrow (by simp) (fun k hk => by simp [Value.ownBlock] at hk; omega)
    clear hown0 hnews hone hgrow hnil
    obtain ⟨hlen, hcase⟩ := hown
    have hex : ∃ a' c' g, v' = .slice a' n c' ∧ n ≤ c' ∧ c' ≤ 9223372036854775807 ∧ (0 < n → a' = some ⟨g, 0, none⟩ ∧ w.heap.size ≤ g ∧ OwnRow w1 g 5 n (numRow .u8 X)) := by
      rcases hcase with ⟨rfl, hn0⟩ | ⟨g, cap, cur, rfl, hbg, hg, hnc, hcm, hcs, ht⟩
      · exact ⟨none, 0, 0, by rw [hn0], by omega, by omega, fun h => by omega⟩
      · refine ⟨_, cap, g, rfl, hnc, hcm, fun _ => ⟨rfl, hbg, OwnRow.of_owns (base := w.heap.size) (xs := (List.range n).map (numRow .u8 X)) ⟨hlen, .inr ⟨g, cap, cur, rfl, hbg, hg, hnc, hcm, hcs, ht⟩⟩ fun i hi => ?_⟩⟩
        rw [List.getElem?_map, List.getElem?_range hi]; rfl
    obtain ⟨a', c', g, hv', h1, h3, h2⟩ := hex
    rw [hv']
    clear hcase hlen hv'
    go_wp2
    go_ret
    exact ⟨a', c', g, rfl, h1, h3, hB, h2⟩
end Go.Proofs.Qxb6003732a
