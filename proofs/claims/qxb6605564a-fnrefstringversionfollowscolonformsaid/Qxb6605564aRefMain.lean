/-
  FnRefStringVersionFollowsColonForm: its callees and itself.
-/
import Derived.Test.Qxb6605564aRows
import Derived.WalkKit
import Derived.ProofKit
import Derived.WalkSpells
import Derived.WalkSmall
namespace Go.Proofs.Qxb6605564a
open Go.RowKit

theorem makeRef_any (id v : ByteArray) (e : Bool) (w : World) :
    Calls Try.prog 14 #[.string id, .string v, .bool e] w fun x w' => x = .returned (.agg #[.string id, .string v, .bool e]) ∧ w' = w.alloc (.cells #[.string id, .string v, .bool e] 24) := by
  go_enter Try.func14, Try.ntmps14
  go_wp2
  exact bodyPost_ret (v := .agg #[.string id, .string v, .bool e]) (by simp [results, Try.results14, go_sem]) rfl ⟨rfl, rfl⟩

theorem highest_any (id v : ByteArray) (e : Bool) (w : World) :
    Calls Try.prog 17 #[.agg #[.string id, .string v, .bool e]] w fun x w' => x = .returned (.bool (v.toList.isEmpty && !e)) ∧ w' = w.alloc (.cells #[.string id, .string v, .bool e] 24) := by
  cases hv : v.toList.isEmpty with
  | true =>
    go_enter Try.func17, Try.ntmps17
    go_wp2
    go_ret
    exact ⟨rfl, rfl⟩
  | false =>
    go_enter Try.func17, Try.ntmps17
    go_wp2
    go_ret
    exact ⟨rfl, rfl⟩

/-- The colon. -/
theorem string_colon (id v : ByteArray) (e : Bool) (w : World) (hi : id.size ≤ 524288) (hv : v.size ≤ 524288) (hh : (v.toList.isEmpty && !e) = false) :
    Calls Try.prog 12 #[.agg #[.string id, .string v, .bool e]] w fun x w' => x = .returned (.string (id ++ ⟨#[58]⟩ ++ v)) ∧ w' = (w.alloc (.cells #[.string id, .string v, .bool e] 24)).alloc (.cells #[.string id, .string v, .bool e] 24) := by
  go_enter Try.func12, Try.ntmps12
  go_wp2_with fail
  refine (highest_any id v e _).mono ?_
  rintro x w1 ⟨rfl, rfl⟩
  rw [hh]
  go_wp2
  go_ret
  exact ⟨rfl, rfl⟩
theorem string_bare (id v : ByteArray) (e : Bool) (w : World) (hh : (v.toList.isEmpty && !e) = true) :
    Calls Try.prog 12 #[.agg #[.string id, .string v, .bool e]] w fun x w' => x = .returned (.string id) ∧ w' = (w.alloc (.cells #[.string id, .string v, .bool e] 24)).alloc (.cells #[.string id, .string v, .bool e] 24) := by
  go_enter Try.func12, Try.ntmps12
  go_wp2_with fail
  refine (highest_any id v e _).mono ?_
  rintro x w1 ⟨rfl, rfl⟩
  rw [hh]
  go_wp2
  go_ret
  exact ⟨rfl, rfl⟩

/-- A marked empty version. -/
theorem string_written (id : ByteArray) (w : World) (hi : id.size ≤ 524288) :
    Calls Try.prog 12 #[.agg #[.string id, .string ⟨#[]⟩, .bool true]] w fun x w' => x = .returned (.string (id ++ ⟨#[58]⟩)) ∧ w' = (w.alloc (.cells #[.string id, .string ⟨#[]⟩, .bool true] 24)).alloc (.cells #[.string id, .string ⟨#[]⟩, .bool true] 24) := by
  have h := string_colon id ⟨#[]⟩ true w hi (by show 0 ≤ 524288; omega) (by rw [ByteArray.toList_eq]; rfl)
  rw [show id ++ ⟨#[58]⟩ ++ (⟨#[]⟩ : ByteArray) = id ++ ⟨#[58]⟩ from ByteArray.append_empty] at h
  exact h

theorem empty_of {a : ByteArray} (h : a.toList.isEmpty = true) : a = ⟨#[]⟩ := by
  have h2 : a.data = #[] := by
    have : a.toList = [] := by simpa using h
    rw [ByteArray.toList_eq] at this
    simpa using this
  cases a
  simp at h2
  rw [h2]

set_option maxHeartbeats 1000000 in
theorem main (a0 a1 : ByteArray) (w : World) (h0 : a0.size ≤ 524288) (h1 : a1.size ≤ 524288) :
    Calls Try.prog 6 #[.string a0, .string a1] w fun e w' => e = .returned (.bool true) ∧ Grown w w' := by
  have c15 : ∀ w, Calls Try.prog 15 #[.string a0, .string a1] w fun e w' => e = .returned (.bool true) ∧ w = w' := fun w => by
    go_enter Try.func15, Try.ntmps15
    go_wp2
    go_ret
    exact ⟨rfl, rfl⟩
  have t0 : ¬ (524288 : Int) < (a0.size : Int) := by omega
  have t1 : ¬ (524288 : Int) < (a1.size : Int) := by omega
  cases he : a1.toList.isEmpty with
  | true =>
    obtain rfl := empty_of he
    clear he
    go_enter Try.func6, Try.ntmps6
    go_wp2_with fail
    refine (c15 _).mono ?_
    rintro x w' ⟨rfl, rfl⟩
    clear c15
    go_wp2_with fail
    refine (makeRef_any a0 ⟨#[]⟩ false _).mono ?_
    rintro x w1 ⟨rfl, rfl⟩
    go_wp2_with fail
    refine (string_bare a0 ⟨#[]⟩ false _ (by rw [ByteArray.toList_eq]; rfl)).mono ?_
    rintro x w2 ⟨rfl, rfl⟩
    go_wp2_with fail
    refine (makeRef_any a0 ⟨#[]⟩ true _).mono ?_
    rintro x w3 ⟨rfl, rfl⟩
    go_wp2_with fail
    refine (string_written a0 _ h0).mono ?_
    rintro x w4 ⟨rfl, rfl⟩
    go_wp2_with fail
    refine (makeRef_any a0 ⟨#[]⟩ true _).mono ?_
    rintro x w5 ⟨rfl, rfl⟩
    go_wp2_with fail
    refine (string_written a0 _ h0).mono ?_
    rintro x w6 ⟨rfl, rfl⟩
    go_wp2
    go_ret
    exact ⟨rfl, by repeat (first | exact Grown.refl _ | apply Grown.drew | apply Grown.alloc)⟩
  | false =>
    go_enter Try.func6, Try.ntmps6
    go_wp2_with fail
    refine (c15 _).mono ?_
    rintro x w' ⟨rfl, rfl⟩
    clear c15
    go_wp2_with fail
    refine (makeRef_any a0 a1 false _).mono ?_
    rintro x w1 ⟨rfl, rfl⟩
    go_wp2_with fail
    refine (string_colon a0 a1 false _ h0 h1 (by rw [he]; rfl)).mono ?_
    rintro x w2 ⟨rfl, rfl⟩
    go_wp2_with fail
    refine (makeRef_any a0 a1 true _).mono ?_
    rintro x w3 ⟨rfl, rfl⟩
    go_wp2_with fail
    refine (string_colon a0 a1 true _ h0 h1 (by rw [he]; rfl)).mono ?_
    rintro x w4 ⟨rfl, rfl⟩
    go_wp2_with fail
    refine (makeRef_any a0 ⟨#[]⟩ true _).mono ?_
    rintro x w5 ⟨rfl, rfl⟩
    go_wp2_with fail
    refine (string_written a0 _ h0).mono ?_
    rintro x w6 ⟨rfl, rfl⟩
    go_wp2
    go_ret
    exact ⟨rfl, by repeat (first | exact Grown.refl _ | apply Grown.drew | apply Grown.alloc)⟩
end Go.Proofs.Qxb6605564a
