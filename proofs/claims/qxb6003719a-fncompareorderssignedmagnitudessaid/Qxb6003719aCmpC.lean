/-
  The walk of ZZCoefOfG2.
-/
import Derived.Test.Qxb6003719aCmpB
namespace Go.Proofs.Qxb6003719a
open Go.RowKit

/-- The list that copy leaves. -/
theorem splice_coef (neg : Bool) (n : Nat) (X : Nat → Nat) (hn : n ≤ 12) :
    (splice (coefArr neg 0 zero12).toList 2 ((List.range n).map (wordRow X))).toArray = coefArr neg 0 (Cmp.pad n X) :=
  match n, hn with
  | 0, _ => by kernel_rfl
  | 1, _ => by kernel_rfl
  | 2, _ => by kernel_rfl
  | 3, _ => by kernel_rfl
  | 4, _ => by kernel_rfl
  | 5, _ => by kernel_rfl
  | 6, _ => by kernel_rfl
  | 7, _ => by kernel_rfl
  | 8, _ => by kernel_rfl
  | 9, _ => by kernel_rfl
  | 10, _ => by kernel_rfl
  | 11, _ => by kernel_rfl
  | 12, _ => by kernel_rfl
theorem infoSz26 : (Try.prog.info? 26).map (·.size) = some 1 := by kernel_rfl

set_option maxHeartbeats 400000 in
theorem coefOf_any (neg : Bool) (b n : Nat) (X : Nat → Nat) (w : World) (hn : n ≤ 12) (hr : w.rowIs b 26 n (wordRow X)) :
    Calls Try.prog 14 #[.bool neg, .slice (some ⟨b, 0, none⟩) n n] w fun e w' => e = .returned (.pointer (some ⟨w.heap.size, 0, none⟩)) ∧ Below w.heap.size w w' ∧ IsCoef w' w.heap.size neg (Cmp.trimmed (Cmp.pad n X) n) (Cmp.pad n X) := by
  have hcs : ∀ j v, ((List.range n).map (wordRow X))[j]? = some v → j < n ∧ v = wordRow X j := fun j v hv => by
    have hl : j < n := by
      have := (List.getElem?_eq_some_iff.1 hv).1
      simpa using this
    rw [List.getElem?_map, List.getElem?_range hl] at hv
    exact ⟨hl, by simpa using hv.symm⟩
  have hsrc : ∀ o, ∀ j v, ((List.range n).map (wordRow X))[j]? = some v → (w.alloc o).cell? ((⟨b, 0, none⟩ : Addr).add j) = some v := fun o j v hv => by
    obtain ⟨hj, rfl⟩ := hcs j v hv
    rw [Addr.add_lit, Nat.zero_add]
    exact (hr.alloc o).cell hj
  have hone : ∀ v ∈ (List.range n).map (wordRow X), v.oneCell' = true := fun v hv => by
    obtain ⟨j, _, rfl⟩ := List.mem_map.1 hv; rfl
  have hB0 : ∀ o, Below w.heap.size w (w.alloc o) := fun o => (Below.refl _ _).alloc (Nat.le_refl _) _
  clear hcs
  go_enter Try.func14, Try.ntmps14
  go_wp2_with (refine wpList_copy_splice rfl (.tmp 13) (.tmp 14) 27 27 rfl 26 Try.underlying27 infoSz26 (some ⟨w.heap.size, 2, none⟩) (some ⟨b, 0, none⟩) 12 12 n n rfl rfl w.heap.size 2 (coefArr neg 0 zero12).toList 49 (heap_alloc_new w _) ((List.range n).map (wordRow X)) (by simp [Nat.min_eq_left hn]) (fun _ => ⟨rfl, _, rfl, hsrc _⟩) (by simp; show 2 + n ≤ 15; omega) hone w.heap.size w (hB0 _) (Nat.le_refl _) ?_)
  intro w1 hg1 hb1
  have hc1 : IsCoef w1 w.heap.size neg 0 (Cmp.pad n X) := by have := hg1.out; rw [splice_coef neg n X hn] at this; exact this
  have c1 := hc1.len
  have f1 := hc1.frozen 1
  have HC : Hid (IsCoef w1 w.heap.size neg 0 (Cmp.pad n X)) := hc1
  clear hsrc hone hB0 hc1 hg1
  go_wp2_with fail
  refine (trim_any w.heap.size neg n (Cmp.pad n X) _ hn (HC.out.setLen n)).mono ?_
  rintro e w2 ⟨rfl, hb2, hc2⟩
  have hB : Below w.heap.size w w2 := (hb1.setCell (Nat.le_refl _) _).trans hb2
  clear hb1 hb2 c1 f1 HC
  go_wp2
  go_ret
  exact ⟨rfl, hB, hc2⟩
end Go.Proofs.Qxb6003719a
