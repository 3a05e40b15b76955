/-
  The walks of rsaPublicKey and ZZRSAPublicKey.
-/
import Derived.Test.Qxb6003732aRsaD
import Derived.Laws.Pointers
import Derived.Deep.RegionWith
namespace Go.Proofs.Qxb6003732a
open Go.RowKit

theorem IsE.quiet {w : World} {d : Nat} {neg : Bool} {L low : Nat} (h : IsE w d neg L low) (o : Obj) (n : Nat) : IsE ((w.alloc o).drewN n) d neg L low :=
  h.later (below_drewN ((Below.refl _ _).alloc (Nat.le_refl _) _) n)

theorem quiet40 {w : World} {d : Nat} {neg : Bool} {L low : Nat} (h : IsE w d neg L low) (o : Obj) (n : Nat) :
    Calls Try.prog 40 #[.pointer (some ⟨d, 0, none⟩)] ((w.alloc o).drewN n) fun e w' => e = .returned (.int .i64 (i64Of neg low)) ∧ w' = (w.alloc o).drewN n :=
  (Int64_any d L low neg _ (h.quiet o n)).mono fun _ _ ⟨he, hw⟩ => ⟨he, hw.symm⟩
theorem quiet39 {w : World} {d : Nat} {neg : Bool} {L low : Nat} {v : Bool} (h : IsE w d neg L low) (hlow : low < 18446744073709551616) (hv : fitsB neg L low = v) (o : Obj) (n : Nat) :
    Calls Try.prog 39 #[.pointer (some ⟨d, 0, none⟩)] ((w.alloc o).drewN n) fun e w' => e = .returned (.bool v) ∧ w' = (w.alloc o).drewN n :=
  (IsInt64_any d L low neg _ hlow (h.quiet o n)).mono fun _ _ ⟨he, hw⟩ => ⟨hv ▸ he, hw.symm⟩

set_option maxHeartbeats 1000000 in
theorem pubNil_any (d : Nat) (w : World) :
    Calls Try.prog 33 #[.agg #[.string ⟨#[]⟩, .slice none 0 0, .slice none 0 0, .pointer none, .pointer (some ⟨d, 0, none⟩)]] w fun e w' => e = .returned (.pointer none) ∧ Below w.heap.size w w' := by
  have hB : ∀ o n, Below w.heap.size w ((w.alloc o).drewN n) := fun o n => below_drewN ((Below.refl _ _).alloc (Nat.le_refl _) _) n
  go_enter Try.func33, Try.ntmps33
  go_wp2
  go_quiet (fail)
  go_wp2
  go_ret
  exact ⟨rfl, hB _ _⟩

set_option maxHeartbeats 1000000 in
theorem pubNot_any (m d L low : Nat) (neg : Bool) (w : World) (hlow : low < 18446744073709551616) (h : IsE w d neg L low) (hv : fitsB neg L low = false) :
    Calls Try.prog 33 #[.agg #[.string ⟨#[]⟩, .slice none 0 0, .slice none 0 0, .pointer (some ⟨m, 0, none⟩), .pointer (some ⟨d, 0, none⟩)]] w fun e w' => e = .returned (.pointer none) ∧ Below w.heap.size w w' := by
  have hB : ∀ o n, Below w.heap.size w ((w.alloc o).drewN n) := fun o n => below_drewN ((Below.refl _ _).alloc (Nat.le_refl _) _) n
  have q39 := fun o n => quiet39 h hlow hv o n
  clear h hv
  go_enter Try.func33, Try.ntmps33
  go_wp2
  go_quiet ((go_at_call 39; exact Calls.quiet_of_same (q39 _ _)))
  go_wp2
  go_ret
  exact ⟨rfl, hB _ _⟩

theorem heap_second (w : World) (A B : Obj) (n : Nat) : (((w.alloc A).drewN n).alloc B).heap[w.heap.size + 1]? = some B := by
  have h := heap_alloc_new ((w.alloc A).drewN n) B
  have e : ((w.alloc A).drewN n).heap.size = w.heap.size + 1 := by simp
  rw [e] at h
  exact h

set_option maxHeartbeats 2000000 in
theorem pubYes_any (m d L low : Nat) (neg : Bool) (w : World) (hlow : low < 18446744073709551616) (h : IsE w d neg L low) (hv : fitsB neg L low = true) :
    Calls Try.prog 33 #[.agg #[.string ⟨#[]⟩, .slice none 0 0, .slice none 0 0, .pointer (some ⟨m, 0, none⟩), .pointer (some ⟨d, 0, none⟩)]] w fun e w' => ∃ k, e = .returned (.pointer (some ⟨k, 0, none⟩)) ∧ Below w.heap.size w w' ∧ w'.heap[k]? = some (.cells #[.pointer (some ⟨m, 0, none⟩), .int .i64 (i64Of neg low)] 51 (0, 0)) := by
  have hB : ∀ o n, Below w.heap.size w ((w.alloc o).drewN n) := fun o n => below_drewN ((Below.refl _ _).alloc (Nat.le_refl _) _) n
  have q39 := fun o n => quiet39 h hlow hv o n
  have q40 := fun o n => quiet40 h o n
  have hb := i64Of_bd neg low
  clear h hv
  generalize i64Of neg low = x at *
  go_enter Try.func33, Try.ntmps33
  go_wp2
  go_quiet ((first | (go_at_call 39; exact Calls.quiet_of_same (q39 _ _)) | (go_at_call 40; exact Calls.quiet_of_same (q40 _ _))))
  go_wp2
  go_region_with (go_at_call 40; refine (q40 _ _).mono ?_; rintro e w' ⟨rfl, rfl⟩)
  all_goals (go_wp2; go_ret; exact ⟨_, rfl, (hB _ _).alloc (by simp) _, heap_second w _ _ _⟩)

theorem zzNil_any (d : Nat) (w : World) :
    Calls Try.prog 22 #[.pointer none, .pointer (some ⟨d, 0, none⟩)] w fun e w' => e = .returned (.pointer none) ∧ Below w.heap.size w w' := by
  go_enter Try.func22, Try.ntmps22
  go_wp2_with fail
  refine (pubNil_any d _).mono ?_
  rintro e w' ⟨rfl, h⟩
  go_wp2
  go_ret
  exact ⟨rfl, h⟩
theorem zzNot_any (m d L low : Nat) (neg : Bool) (w : World) (hlow : low < 18446744073709551616) (h : IsE w d neg L low) (hv : fitsB neg L low = false) :
    Calls Try.prog 22 #[.pointer (some ⟨m, 0, none⟩), .pointer (some ⟨d, 0, none⟩)] w fun e w' => e = .returned (.pointer none) ∧ Below w.heap.size w w' := by
  go_enter Try.func22, Try.ntmps22
  go_wp2_with fail
  refine (pubNot_any m d L low neg _ hlow h hv).mono ?_
  rintro e w' ⟨rfl, h⟩
  go_wp2
  go_ret
  exact ⟨rfl, h⟩
theorem zzYes_any (m d L low : Nat) (neg : Bool) (w : World) (hlow : low < 18446744073709551616) (h : IsE w d neg L low) (hv : fitsB neg L low = true) :
    Calls Try.prog 22 #[.pointer (some ⟨m, 0, none⟩), .pointer (some ⟨d, 0, none⟩)] w fun e w' => ∃ k, e = .returned (.pointer (some ⟨k, 0, none⟩)) ∧ Below w.heap.size w w' ∧ w'.heap[k]? = some (.cells #[.pointer (some ⟨m, 0, none⟩), .int .i64 (i64Of neg low)] 51 (0, 0)) := by
  go_enter Try.func22, Try.ntmps22
  go_wp2_with fail
  refine (pubYes_any m d L low neg _ hlow h hv).mono ?_
  rintro e w' ⟨k, rfl, h⟩
  go_wp2
  go_ret
  exact ⟨k, rfl, h⟩
end Go.Proofs.Qxb6003732a
