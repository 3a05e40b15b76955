/-
  The walks of truncatedPrefix, ZZTruncatedPrefix.
-/
import Derived.Test.Qxb6003732aTruncA
namespace Go.Proofs.Qxb6003732a
open Go.RowKit

theorem View.mono {k : IntKind} {w : World} {a : Option Addr} {n m b off : Nat} {X : Nat → Int} (h : View k w a n b off X) (hm : m ≤ n) : View k w a m b off X :=
  ⟨fun h0 => h.1 (by omega), fun i hi => h.2 i (by omega)⟩

theorem box3 {w : World} {N : Nat} {x y z : Value} {t : TypeId} (h : w.heap[N]? = some (.cells #[x, y, z] t (0, 0))) (u v s : Value) :
    (((w.setCell ⟨N, 0, none⟩ u).setCell ⟨N, 1, none⟩ v).setCell ⟨N, 2, none⟩ s).heap[N]? = some (.cells #[u, v, s] t (0, 0)) := by
  rw [heap_setCell_same _ N 2 _ _ _ (heap_setCell_same _ N 1 _ _ _ (heap_setCell_same w N 0 _ _ _ h))]
  rfl
theorem info26 (u v s : Value) : (Try.prog.info? 26).map (·.size) = some (#[u, v, s] : Array Value).size := by
  show _ = some 3
  kernel_rfl
theorem view_own {w : World} {g m : Nat} {X : Nat → Int} (h : OwnRow w g 5 m (numRow .u8 X)) : View .u8 w (some ⟨g, 0, none⟩) m g 0 X :=
  ⟨fun _ => rfl, fun i hi => by rw [Nat.zero_add]; exact h.cell hi⟩

set_option maxHeartbeats 1000000 in
set_option maxRecDepth 100000 in
theorem trunc_any (fa : Option Addr) (fl fc : Nat) (a : Option Addr) (n c b off len m : Nat) (X : Nat → Nat) (w : World) (hn : n ≤ 2000000) (hc : n ≤ c) (hc2 : c ≤ 9223372036854775807) (hm : Hid (m = (len + 7) / 8)) (hmn : m ≤ n) (hl : len ≤ 16000000) (hX : ∀ i, X i < 256) (hv : View .u8 w a n b off (nb X)) :
    Calls Try.prog 23 #[.slice fa fl fc, .slice a n c, .int .i64 len] w fun e w' => ∃ a' c' g, e = .returned (.agg #[.slice fa fl fc, .slice a' m c', .int .i64 len]) ∧ m ≤ c' ∧ c' ≤ 9223372036854775807 ∧ (0 < m → w.heap.size ≤ g) ∧ Below w.heap.size w w' ∧ View .u8 w' a' m g 0 (nb (Tr.truncAt len X)) := by
  have hm1 : ((len : Int) + 7) / 8 = (m : Int) := by have := hm.out; omega
  have hm2 : (m : Int) ≤ (n : Int) := by omega
  have hm3 : (m : Int) ≤ (c : Int) := by omega
  go_enter Try.func23, Try.ntmps23
  go_wp2_with fail
  refine (clone_any a m c b off (nb X) _ (by omega) ((hv.mono hmn).later ((Below.refl w.heap.size w).alloc (Nat.le_refl _) _) (Nat.le_refl _))).mono ?_
  rintro e w1 ⟨a1, c1, g1, rfl, hc1, hcx, hb1, hr1⟩
  have hB1 : Below w.heap.size w w1 := ((Below.refl w.heap.size w).alloc (Nat.le_refl _) _).trans (hb1.mono (by simp))
  have r0 : w1.heap[w.heap.size]? = some (.cells #[.slice none 0 0, .slice none 0 0, .int .i64 0] 26 (0, 0)) := (hb1.block _ (by simp)).trans (heap_alloc_new w _)
  have q0 : w1.cell? ⟨w.heap.size, 0, none⟩ = some (.slice none 0 0) := by rw [cell_of_row _ _ _ _ _ _ r0]; rfl
  have q1 : w1.cell? ⟨w.heap.size, 1, none⟩ = some (.slice none 0 0) := by rw [cell_of_row _ _ _ _ _ _ r0]; rfl
  have q2 : w1.cell? ⟨w.heap.size, 2, none⟩ = some (.int .i64 0) := by rw [cell_of_row _ _ _ _ _ _ r0]; rfl
  have p0 : w1.frozen? ⟨w.heap.size, 0, none⟩ = false := frozen_of_row _ _ _ _ _ r0
  have p1 : w1.frozen? ⟨w.heap.size, 1, none⟩ = false := frozen_of_row _ _ _ _ _ r0
  have p2 : w1.frozen? ⟨w.heap.size, 2, none⟩ = false := frozen_of_row _ _ _ _ _ r0
  have hs1 : w.heap.size + 1 ≤ w1.heap.size := by have := hb1.size; simpa using this
  have HR0 : Hid (w1.heap[w.heap.size]? = some (.cells #[.slice none 0 0, .slice none 0 0, .int .i64 0] 26 (0, 0))) := r0
  clear r0 hb1 hv hm1
  by_cases hz : len % 8 = 0
  · have hz' : ((len : Int) % 8 != 0) = false := by simp; omega
    have hvw : ∀ u v s, View .u8 (((w1.setCell ⟨w.heap.size, 0, none⟩ u).setCell ⟨w.heap.size, 1, none⟩ v).setCell ⟨w.heap.size, 2, none⟩ s) a1 m g1 0 (nb (Tr.truncAt len X)) := fun u v s => by
      by_cases hm0 : 0 < m
      · obtain ⟨ha1, hg1, hr1⟩ := hr1 hm0
        have hne : g1 ≠ w.heap.size := by simp at hg1; omega
        rw [ha1]
        have h3 : OwnRow (((w1.setCell ⟨w.heap.size, 0, none⟩ u).setCell ⟨w.heap.size, 1, none⟩ v).setCell ⟨w.heap.size, 2, none⟩ s) g1 5 m (numRow .u8 (nb X)) :=
          hr1.of_block (by rw [Below.heap_setCell _ _ _ _ hne, Below.heap_setCell _ _ _ _ hne, Below.heap_setCell _ _ _ _ hne])
        have e : nb (Tr.truncAt len X) = nb X := by
          funext i; unfold nb Tr.truncAt; rw [if_neg (fun h => h.1 hz)]
        rw [e]
        exact view_own h3
      · exact ⟨fun h => absurd h hm0, fun i hi => by omega⟩
    go_wp2
    exact bodyPost_ret (v := .agg #[.slice fa fl fc, .slice a1 m c1, .int .i64 len]) (results_cell_row Try.results23 _ _ w.heap.size 26 _ (0, 0) _ rfl (box3 HR0.out _ _ _) Try.underlying26 rfl (info26 _ _ _)) rfl
      ⟨a1, c1, g1, rfl, hc1, hcx, (fun h => by have := (hr1 h).2.1; simp at this; omega), ((hB1.setCell (p := ⟨w.heap.size, 0, none⟩) (Nat.le_refl _) _).setCell (p := ⟨w.heap.size, 1, none⟩) (Nat.le_refl _) _).setCell (p := ⟨w.heap.size, 2, none⟩) (Nat.le_refl _) _, hvw _ _ _⟩
  · have hz' : ((len : Int) % 8 != 0) = true := by rw [bne_iff_ne]; omega
    obtain ⟨p, rfl⟩ : ∃ p, m = p + 1 := ⟨m - 1, by have := hm.out; omega⟩
    obtain ⟨ha1, hg1, hr1⟩ := hr1 (by omega)
    rw [ha1]
    have g0 : w1.cell? ⟨g1, p, none⟩ = some (.int .u8 ((X p : Nat) : Int)) := hr1.cell (by omega)
    have f0 : w1.frozen? ⟨g1, p, none⟩ = false := hr1.frozen p
    have hgs : w.heap.size < g1 := by have := hg1; simp at this; omega
    have hp : p = len / 8 := by have := hm.out; omega
    have HP : Hid (p = len / 8) := hp
    have eand := Tr.and_mask' (8 - len % 8) (X p) (by omega) (hX p)
    have hvw : ∀ u v s, View .u8 ((((w1.setCell ⟨g1, p, none⟩ (.int .u8 ((Tr.clr (8 - len % 8) (X p) : Nat) : Int))).setCell ⟨w.heap.size, 0, none⟩ u).setCell ⟨w.heap.size, 1, none⟩ v).setCell ⟨w.heap.size, 2, none⟩ s) (some ⟨g1, 0, none⟩) (p + 1) g1 0 (nb (Tr.truncAt len X)) := fun u v s => by
      have hne : g1 ≠ w.heap.size := by omega
      refine view_own ((hr1.set (f' := numRow .u8 (nb (Tr.truncAt len X))) p (.int .u8 ((Tr.clr (8 - len % 8) (X p) : Nat) : Int)) fun i hi => ?_).of_block (by rw [Below.heap_setCell _ _ _ _ hne, Below.heap_setCell _ _ _ _ hne, Below.heap_setCell _ _ _ _ hne]))
      by_cases e : i = p
      · rw [if_pos e, e]; unfold numRow nb Tr.truncAt; rw [if_pos ⟨hz, hp⟩]
      · rw [if_neg e]; unfold numRow nb Tr.truncAt; rw [if_neg (fun h => e (h.2.trans hp.symm))]
    have HR2 : Hid ((w1.setCell ⟨g1, p, none⟩ (.int .u8 ((Tr.clr (8 - len % 8) (X p) : Nat) : Int))).heap[w.heap.size]? = some (.cells #[.slice none 0 0, .slice none 0 0, .int .i64 0] 26 (0, 0))) := (Below.heap_setCell _ _ _ _ (show w.heap.size ≠ g1 by omega)).trans HR0.out
    have hB2 : Below w.heap.size w (w1.setCell ⟨g1, p, none⟩ (.int .u8 ((Tr.clr (8 - len % 8) (X p) : Nat) : Int))) := hB1.setCell (by show w.heap.size ≤ g1; omega) _
    clear hp hr1
    go_wp2
    go_region
    all_goals
      go_wp2
      exact bodyPost_ret (v := .agg #[.slice fa fl fc, .slice (some ⟨g1, 0, none⟩) (p + 1) c1, .int .i64 len]) (results_cell_row Try.results23 _ _ w.heap.size 26 _ (0, 0) _ rfl (box3 HR2.out _ _ _) Try.underlying26 rfl (info26 _ _ _)) rfl
        ⟨_, c1, g1, rfl, hc1, hcx, (fun _ => by omega), (((hB2.setCell (p := ⟨w.heap.size, 0, none⟩) (Nat.le_refl _) _).setCell (p := ⟨w.heap.size, 1, none⟩) (Nat.le_refl _) _).setCell (p := ⟨w.heap.size, 2, none⟩) (Nat.le_refl _) _).drew, hvw _ _ _⟩

theorem View.set {k : IntKind} {w : World} {a : Option Addr} {n b off : Nat} {X : Nat → Int} (h : View k w a n b off X) (p : Addr) (v : Value) (hb : 0 < n → b ≠ p.block) : View k (w.setCell p v) a n b off X :=
  ⟨h.1, fun i hi => (World.cell?_of_block (w := w) (a := ⟨b, off + i, none⟩) (Below.heap_setCell _ _ _ _ (hb (by omega)))).trans (h.2 i hi)⟩

set_option maxHeartbeats 1000000 in
theorem zzTrunc_any (fa : Option Addr) (fl fc : Nat) (a : Option Addr) (n c b off len m : Nat) (X : Nat → Nat) (w : World) (hn : n ≤ 2000000) (hc : n ≤ c) (hc2 : c ≤ 9223372036854775807) (hm : Hid (m = (len + 7) / 8)) (hmn : m ≤ n) (hl : len ≤ 16000000) (hX : ∀ i, X i < 256) (hv : View .u8 w a n b off (nb X)) :
    Calls Try.prog 9 #[.slice fa fl fc, .slice a n c, .int .i64 len] w fun e w' => ∃ a' c' g, e = .returned (.agg #[.slice fa fl fc, .slice a' m c', .int .i64 len]) ∧ m ≤ c' ∧ c' ≤ 9223372036854775807 ∧ (0 < m → w.heap.size ≤ g) ∧ Below w.heap.size w w' ∧ View .u8 w' a' m g 0 (nb (Tr.truncAt len X)) := by
  have hv' := hv.later ((Below.refl w.heap.size w).alloc (Nat.le_refl _) (.cells #[.slice none 0 0, .slice none 0 0, .int .i64 0] 26)) (Nat.le_refl _)
  go_enter Try.func9, Try.ntmps9
  go_wp2_with fail
  refine (trunc_any fa fl fc a n c b off len m X _ hn hc hc2 hm hmn hl hX hv').mono ?_
  rintro e w1 ⟨a1, c1, g1, rfl, hc1, hcx, hg1, hb1, hv1⟩
  have hB1 : Below w.heap.size w w1 := ((Below.refl w.heap.size w).alloc (Nat.le_refl _) _).trans (hb1.mono (by simp))
  have r0 : w1.heap[w.heap.size]? = some (.cells #[.slice none 0 0, .slice none 0 0, .int .i64 0] 26 (0, 0)) := (hb1.block _ (by simp)).trans (heap_alloc_new w _)
  have q0 : w1.cell? ⟨w.heap.size, 0, none⟩ = some (.slice none 0 0) := by rw [cell_of_row _ _ _ _ _ _ r0]; rfl
  have q1 : w1.cell? ⟨w.heap.size, 1, none⟩ = some (.slice none 0 0) := by rw [cell_of_row _ _ _ _ _ _ r0]; rfl
  have q2 : w1.cell? ⟨w.heap.size, 2, none⟩ = some (.int .i64 0) := by rw [cell_of_row _ _ _ _ _ _ r0]; rfl
  have p0 : w1.frozen? ⟨w.heap.size, 0, none⟩ = false := frozen_of_row _ _ _ _ _ r0
  have p1 : w1.frozen? ⟨w.heap.size, 1, none⟩ = false := frozen_of_row _ _ _ _ _ r0
  have p2 : w1.frozen? ⟨w.heap.size, 2, none⟩ = false := frozen_of_row _ _ _ _ _ r0
  have HR0 : Hid (w1.heap[w.heap.size]? = some (.cells #[.slice none 0 0, .slice none 0 0, .int .i64 0] 26 (0, 0))) := r0
  have hne : 0 < m → g1 ≠ w.heap.size := fun h => by have := hg1 h; simp at this; omega
  have hvw : ∀ u v s, View .u8 (((w1.setCell ⟨w.heap.size, 0, none⟩ u).setCell ⟨w.heap.size, 1, none⟩ v).setCell ⟨w.heap.size, 2, none⟩ s) a1 m g1 0 (nb (Tr.truncAt len X)) := fun u v s =>
    ((hv1.set ⟨w.heap.size, 0, none⟩ u hne).set ⟨w.heap.size, 1, none⟩ v hne).set ⟨w.heap.size, 2, none⟩ s hne
  clear r0 hb1 hv hv' hv1
  go_wp2
  exact bodyPost_ret (v := .agg #[.slice fa fl fc, .slice a1 m c1, .int .i64 len]) (results_cell_row Try.results9 _ _ w.heap.size 26 _ (0, 0) _ rfl (box3 HR0.out _ _ _) Try.underlying26 rfl (info26 _ _ _)) rfl
    ⟨a1, c1, g1, rfl, hc1, hcx, (fun h => by have := hg1 h; simp at this; omega), ((hB1.setCell (p := ⟨w.heap.size, 0, none⟩) (Nat.le_refl _) _).setCell (p := ⟨w.heap.size, 1, none⟩) (Nat.le_refl _) _).setCell (p := ⟨w.heap.size, 2, none⟩) (Nat.le_refl _) _, hvw _ _ _⟩
end Go.Proofs.Qxb6003732a
