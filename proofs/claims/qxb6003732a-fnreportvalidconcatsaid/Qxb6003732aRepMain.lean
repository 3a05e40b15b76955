/-
  FnReportValidConcat past its early returns.
-/
import Derived.Test.Qxb6003732aRepA
namespace Go.Proofs.Qxb6003732a
open Go.RowKit

theorem made_num (n : Nat) (w : World) : (w.alloc (.cells (madeCells #[.int .i64 0] n) 3)).rowIs w.heap.size 3 n (numRow .i64 fun _ => 0) :=
  (World.rowIs_made w _ n 3).congr fun _ _ => rfl
theorem rowSet {w : World} {b n k : Nat} {t : TypeId} {F G : Nat → Int} {v : Int} (h : w.rowIs b t n (numRow .i64 F)) (e1 : G k = v) (e2 : ∀ j, j ≠ k → j < n → F j = G j) :
    (w.setCell ⟨b, k, none⟩ (.int .i64 v)).rowIs b t n (numRow .i64 G) :=
  (h.set k _).congr fun j hj => by
    by_cases e : j = k
    · subst e; rw [if_pos rfl, ← e1]; rfl
    · rw [if_neg e]; simp only [numRow, e2 j e hj]

/-- valid, the answer told otherwise. -/
theorem valid_as (d n : Nat) (A : Nat → Int) (v : Bool) (w : World) (hn : n ≤ 100000) (hr : IsReport w d n A) (hv : Rep.valid A n = v) :
    Calls Try.prog 17 #[.pointer (some ⟨d, 0, none⟩)] w fun e w' => e = .returned (.bool v) ∧ Below w.heap.size w w' := by
  rw [← hv]; exact valid_any d n A w hn hr

set_option maxHeartbeats 4000000 in
set_option maxRecDepth 100000 in
theorem repMainT (a0 a1 : Option Addr) (n c m c1 b off d off1 : Nat) (A B : Nat → Int) (vb : Bool) (w : World) (hv : View .i64 w a0 n b off A) (hv1 : View .i64 w a1 m d off1 B) (hnm : n + m ≤ 65536) (hva : Hid (Rep.valid A n = true)) (hvb : Hid (Rep.valid B m = vb)) :
    Calls Try.prog 5 #[.slice a0 n c, .slice a1 m c1] w fun e w' => e = .returned (.bool true) ∧ Below w.heap.size w w' := by
  have c14 : ∀ w, Calls Try.prog 14 #[.slice a0 n c, .slice a1 m c1] w fun e w' => e = .returned (.bool true) ∧ w = w' := fun w => by
    go_enter Try.func14, Try.ntmps14
    go_wp2
    go_ret
    exact ⟨rfl, rfl⟩
  have hnm' : ¬ (65536 : Int) < (n : Int) + (m : Int) := by omega
  have hmk0 := run_make_row' (P := Try.prog) 32 3 (.int .i64 0) 8 Try.underlying32 info3 rfl .i64 .i64 (n + m) (by omega) (by omega)
  have hmk : ∀ w, (Instr.makeSlice 32 (.int .i64 ((n : Int) + (m : Int))) (.int .i64 ((n : Int) + (m : Int)))).run Try.prog w = .ok (.slice (some ⟨w.heap.size, 0, none⟩) (n + m) (n + m)) (w.alloc (.cells (madeCells #[.int .i64 0] (n + m)) 3)) := by
    intro w; have := hmk0 w; simpa using this
  clear hmk0
  go_enter Try.func5, Try.ntmps5
  go_wp2_with fail
  refine (c14 _).mono ?_
  rintro e w' ⟨rfl, rfl⟩
  go_wp2_with fail
  refine (cloneInts_any a0 n c b off A _ (by omega) hv).mono ?_
  rintro e w1 ⟨ax, cx, rfl, hb1, hx1⟩
  have hy0 := hv1.later hb1 (Nat.le_refl _)
  go_wp2_with fail
  refine (cloneInts_any a1 m c1 d off1 B _ (by omega) hy0).mono ?_
  rintro e w2 ⟨ay, cy, rfl, hb2, hy2⟩
  have hx2 := hx1.later hb2 (Nat.le_refl _)
  have hB2 : Below w.heap.size w w2 := hb1.trans (hb2.mono hb1.size)
  clear hb1 hb2 hx1 hy0
  go_wp2_with fail
  refine (reportOf_any none 0 0 0 0 (fun _ => 0) _ (by omega) ⟨fun h => by omega, fun i hi => by omega⟩).mono ?_
  rintro e w3 ⟨d3, rfl, hb3, hr3⟩
  go_wp2_with fail
  refine (valid_as d3 0 (fun _ => 0) true _ (by omega) hr3 rfl).mono ?_
  rintro e w4 ⟨rfl, hb4⟩
  have hb24 : Below w2.heap.size w2 w4 := hb3.trans (hb4.mono hb3.size)
  have hx4 := hx2.later hb24 (Nat.le_refl _)
  have hy4 := hy2.later hb24 (Nat.le_refl _)
  have hB4 : Below w.heap.size w w4 := hB2.trans (hb24.mono hB2.size)
  clear hb3 hb4 hr3 hx2 hy2 hB2 hb24
  go_wp2_with fail
  refine (reportOf_any ax n cx w.heap.size 0 A _ (by omega) hx4).mono ?_
  rintro e w5 ⟨d5, rfl, hb5, hr5⟩
  go_wp2_with fail
  refine (valid_as d5 n A _ _ (by omega) hr5 hva.out).mono ?_
  rintro e w6 ⟨rfl, hb6⟩
  have hb46 : Below w4.heap.size w4 w6 := hb5.trans (hb6.mono hb5.size)
  have hx6 := hx4.later hb46 (Nat.le_refl _)
  have hy6 := hy4.later hb46 (Nat.le_refl _)
  have hB6 : Below w.heap.size w w6 := hB4.trans (hb46.mono hB4.size)
  clear hb5 hb6 hr5 hx4 hy4 hB4 hb46
  go_wp2_with fail
  refine (reportOf_any ay m cy w1.heap.size 0 B _ (by omega) hy6).mono ?_
  rintro e w7 ⟨d7, rfl, hb7, hr7⟩
  go_wp2_with fail
  refine (valid_as d7 m B _ _ (by omega) hr7 hvb.out).mono ?_
  rintro e w8 ⟨rfl, hb8⟩
  have hb68 : Below w6.heap.size w6 w8 := hb7.trans (hb8.mono hb7.size)
  have hx8 := hx6.later hb68 (Nat.le_refl _)
  have hy8 := hy6.later hb68 (Nat.le_refl _)
  have hB8 : Below w.heap.size w w8 := hB6.trans (hb68.mono hB6.size)
  clear hb7 hb8 hr7 hx6 hy6 hB6 hb68
  go_wp2
  go_loopw [8] (fun i wr => ∃ k : Nat, k ≤ n ∧ i = .int .i64 k ∧ Below w8.heap.size w8 wr ∧ wr.rowIs w8.heap.size 3 (n + m) (numRow .i64 fun j => if j < k then A j else 0)) (fun i _ => n - (intOf i).toNat)
  case atStart => exact ⟨0, Nat.zero_le _, rfl, (Below.refl _ _).alloc (Nat.le_refl _) _, (made_num (n + m) w8).congr fun i _ => by simp [numRow]⟩
  case round =>
    obtain ⟨k, hk, rfl, hbr, hr⟩ := hrel
    by_cases hlt : k < n
    · obtain rfl := hx8.1 (by omega)
      have hk1 : (k : Int) < (n : Int) := by omega
      have hk2 : (k : Int) < (n : Int) + (m : Int) := by omega
      have g0 : wr.cell? ⟨w.heap.size, k, none⟩ = some (.int .i64 (A k)) := by have := (hx8.later hbr (Nat.le_refl _)).2 k hlt; rwa [Nat.zero_add] at this
      have g1 : wr.cell? ⟨w8.heap.size, k, none⟩ = some (.int .i64 0) := by rw [hr.cell (by omega)]; simp [numRow]
      have f1 : wr.frozen? ⟨w8.heap.size, k, none⟩ = false := hr.frozen k
      go_wp2
      go_roundw
      case rel => exact ⟨k + 1, by omega, by go_num, hbr.setCell (Nat.le_refl _) _, rowSet hr (by simp) (fun j hj _ => by simp only [lt_succ_of_ne hj])⟩
      case measure => simp [intOf]; omega
    · have hkn : k = n := by omega
      subst hkn
      have hr9 : wr.rowIs w8.heap.size 3 (k + m) (numRow .i64 fun j => if j < k + 0 then Rep.cat k A B j else 0) := hr.congr fun j _ => by
        simp only [numRow, Rep.cat, Nat.add_zero]; split <;> rfl
      have hb9 := hbr
      clear hr hbr hk hlt
      go_wp2
      go_loopw [9] (fun i wr => ∃ j : Nat, j ≤ m ∧ i = .int .i64 j ∧ Below w8.heap.size w8 wr ∧ wr.rowIs w8.heap.size 3 (k + m) (numRow .i64 fun q => if q < k + j then Rep.cat k A B q else 0)) (fun i _ => m - (intOf i).toNat)
      case atStart => exact ⟨0, Nat.zero_le _, rfl, hb9, hr9⟩
      case round =>
        rename_i wr9
        clear hr9 hb9
        obtain ⟨j, hj, rfl, hbr, hr⟩ := hrel
        by_cases hlt : j < m
        · obtain rfl := hy8.1 (by omega)
          have hk1 : (j : Int) < (m : Int) := by omega
          have hk2 : (k : Int) + (j : Int) < (k : Int) + (m : Int) := by omega
          have g0 : wr.cell? ⟨w1.heap.size, j, none⟩ = some (.int .i64 (B j)) := by have := (hy8.later hbr (Nat.le_refl _)).2 j hlt; rwa [Nat.zero_add] at this
          have g1 : wr.cell? ⟨w8.heap.size, k + j, none⟩ = some (.int .i64 0) := by rw [hr.cell (by omega)]; simp only [numRow]; rw [if_neg (by omega)]
          have f1 : wr.frozen? ⟨w8.heap.size, k + j, none⟩ = false := hr.frozen _
          go_wp2
          go_roundw
          case rel => exact ⟨j + 1, by omega, by go_num, hbr.setCell (Nat.le_refl _) _, rowSet hr (by simp only [← Nat.add_assoc]; rw [if_pos (by omega)]; simp only [Rep.cat]; rw [if_neg (by omega), show k + j - k = j by omega]) (fun q hq _ => by simp only [← Nat.add_assoc, lt_succ_of_ne hq])⟩
          case measure => simp [intOf]; omega
        · have hr11 : wr.rowIs w8.heap.size 3 (k + m) (numRow .i64 (Rep.cat k A B)) := hr.congr fun q hq => by
            simp only [numRow]; rw [if_pos (by omega)]
          have hx11 := hx8.later hbr (Nat.le_refl _)
          have hB11 : Below w.heap.size w wr := hB8.trans (hbr.mono hB8.size)
          obtain ⟨N, hN⟩ : ∃ N, N = w8.heap.size := ⟨_, rfl⟩
          have HN : Hid (N = w8.heap.size) := hN
          have hge : ¬ (j : Int) < (m : Int) := by omega
          clear hN hr hbr hlt hj hx8 hy8 hB8 hv hv1
          go_wp2_with fail
          refine (reportOf_any (some ⟨w8.heap.size, 0, none⟩) (k + m) (k + m) w8.heap.size 0 (Rep.cat k A B) _ (by omega) (View.of_row hr11)).mono ?_
          rintro e w12 ⟨d12, rfl, hb12, hr12⟩
          go_wp2_with fail
          refine (valid_as d12 (k + m) (Rep.cat k A B) vb _ (by omega) hr12 (by rw [Rep.valid_cat, hva.out, hvb.out]; rfl)).mono ?_
          rintro e w13 ⟨rfl, hb13⟩
          have hb1113 : Below wr.heap.size wr w13 := hb12.trans (hb13.mono hb12.size)
          have hx13 := hx11.later hb1113 (Nat.le_refl _)
          have hr13 : w13.rowIs w8.heap.size 3 (k + m) (numRow .i64 (Rep.cat k A B)) := hr11.of_block (hb1113.block _ hr11.lt)
          have hB13 : Below w.heap.size w w13 := hB11.trans (hb1113.mono hB11.size)
          clear hb12 hb13 hr12 hx11 hr11 hB11 hb1113
          have hl13 : w8.heap.size < w13.heap.size := hr13.lt
          go_wp2
          go_loopw [11] (fun i wr => ∃ q : Nat, q ≤ k + m ∧ i = .int .i64 q ∧ Below w13.heap.size w13 wr ∧ wr.rowIs w13.heap.size 3 (k + m) (numRow .i64 fun z => if z < q then Rep.rev (k + m) (Rep.cat k A B) z else 0)) (fun i _ => k + m - (intOf i).toNat)
          case atStart => exact ⟨0, Nat.zero_le _, rfl, (Below.refl _ _).alloc (Nat.le_refl _) _, (made_num (k + m) w13).congr fun i _ => by simp [numRow]⟩
          case round =>
            obtain ⟨q, hq, rfl, hbr, hr⟩ := hrel
            have hra : wr.rowIs w8.heap.size 3 (k + m) (numRow .i64 (Rep.cat k A B)) := hr13.of_block (hbr.block _ hl13)
            by_cases hlt : q < k + m
            · have hk1 : (q : Int) < (k : Int) + (m : Int) := by omega
              have g0 : wr.cell? ⟨w8.heap.size, k + m - 1 - q, none⟩ = some (.int .i64 (Rep.rev (k + m) (Rep.cat k A B) q)) := by rw [hra.cell (by omega)]; rfl
              have g1 : wr.cell? ⟨w13.heap.size, q, none⟩ = some (.int .i64 0) := by rw [hr.cell (by omega)]; simp only [numRow]; rw [if_neg (by omega)]
              have f1 : wr.frozen? ⟨w13.heap.size, q, none⟩ = false := hr.frozen _
              go_wp2
              go_roundw
              case rel => exact ⟨q + 1, by omega, by go_num, hbr.setCell (Nat.le_refl _) _, rowSet hr (by rw [if_pos (by omega)]) (fun z hz _ => by simp only [lt_succ_of_ne hz])⟩
              case measure => simp [intOf]; omega
            · have hr14 : wr.rowIs w13.heap.size 3 (k + m) (numRow .i64 (Rep.rev (k + m) (Rep.cat k A B))) := hr.congr fun z hz => by
                simp only [numRow]; rw [if_pos (by omega)]
              have hx14 := hx13.later hbr (Nat.le_refl _)
              have hB14 : Below w.heap.size w wr := hB13.trans (hbr.mono hB13.size)
              have hgeq : ¬ (q : Int) < (k : Int) + (m : Int) := by omega
              clear hr hbr hlt hq hx13 hB13 hr13 hl13 hmk
              go_wp2_with fail
              refine (reportOf_any (some ⟨w13.heap.size, 0, none⟩) (k + m) (k + m) w13.heap.size 0 (Rep.rev (k + m) (Rep.cat k A B)) _ (by omega) (View.of_row hr14)).mono ?_
              rintro e w15 ⟨d15, rfl, hb15, hr15⟩
              go_wp2_with fail
              refine (valid_as d15 (k + m) (Rep.rev (k + m) (Rep.cat k A B)) vb _ (by omega) hr15 (by rw [Rep.valid_rev, Rep.valid_cat, hva.out, hvb.out]; rfl)).mono ?_
              rintro e w16 ⟨rfl, hb16⟩
              have hb1416 : Below wr.heap.size wr w16 := hb15.trans (hb16.mono hb15.size)
              have hx16 := hx14.later hb1416 (Nat.le_refl _)
              have hr16 : w16.rowIs w8.heap.size 3 (k + m) (numRow .i64 (Rep.cat k A B)) := hra.of_block (hb1416.block _ hra.lt)
              have hB16 : Below w.heap.size w w16 := hB14.trans (hb1416.mono hB14.size)
              have hmk0 := run_make_row' (P := Try.prog) 32 3 (.int .i64 0) 8 Try.underlying32 info3 rfl .i64 .i64 (k + 1) (by omega) (by omega)
              have hmk : ∀ w, (Instr.makeSlice 32 (.int .i64 ((k : Int) + 1)) (.int .i64 ((k : Int) + 1))).run Try.prog w = .ok (.slice (some ⟨w.heap.size, 0, none⟩) (k + 1) (k + 1)) (w.alloc (.cells (madeCells #[.int .i64 0] (k + 1)) 3)) := by
                intro w; have := hmk0 w; simpa using this
              clear hb15 hb16 hr15 hx14 hr14 hra hB14 hb1416 hmk0
              have hl16 : w8.heap.size < w16.heap.size := hr16.lt
              go_wp2
              clear hmk
              go_loopw [14] (fun i wr => ∃ q : Nat, q ≤ k ∧ i = .int .i64 q ∧ Below w16.heap.size w16 wr ∧ wr.rowIs w16.heap.size 3 (k + 1) (numRow .i64 fun z => if z < q then A z else 0) ∧ wr.rowIs (w16.heap.size + 1) 3 (k + 1) (numRow .i64 fun z => if z < q then A z else 0)) (fun i _ => k - (intOf i).toNat)
              case atStart =>
                refine ⟨0, Nat.zero_le _, rfl, ((Below.refl _ _).alloc (Nat.le_refl _) _).alloc (by simp) _, ((made_num (k + 1) w16).alloc _).congr fun i _ => by simp [numRow], ?_⟩
                have h := made_num (k + 1) (w16.alloc (.cells (madeCells #[.int .i64 0] (k + 1)) 3))
                simp only [World.size_alloc] at h
                exact h.congr fun i _ => by simp [numRow]
              case round =>
                obtain ⟨q, hq, rfl, hbr, hr, hrE⟩ := hrel
                by_cases hlt : q < k
                · obtain rfl := hx16.1 (by omega)
                  have hk1 : (q : Int) < (k : Int) := by omega
                  have hk2 : (q : Int) < (k : Int) + 1 := by omega
                  have gx := hx16.2 q hlt
                  rw [Nat.zero_add] at gx
                  have hl0 : w.heap.size < w16.heap.size := World.block_lt_of_cell? _ _ gx
                  have g0 : wr.cell? ⟨w.heap.size, q, none⟩ = some (.int .i64 (A q)) := (hbr.cell (p := ⟨w.heap.size, q, none⟩) hl0).trans gx
                  have g1 : wr.cell? ⟨w16.heap.size, q, none⟩ = some (.int .i64 0) := by rw [hr.cell (by omega)]; simp only [numRow]; rw [if_neg (by omega)]
                  have f1 : wr.frozen? ⟨w16.heap.size, q, none⟩ = false := hr.frozen _
                  have g2 : wr.cell? ⟨w16.heap.size + 1, q, none⟩ = some (.int .i64 0) := by rw [hrE.cell (by omega)]; simp only [numRow]; rw [if_neg (by omega)]
                  have f2 : wr.frozen? ⟨w16.heap.size + 1, q, none⟩ = false := hrE.frozen _
                  clear gx
                  go_wp2
                  go_roundw
                  case rel => exact ⟨q + 1, by omega, by go_num, (hbr.setCell (Nat.le_refl _) _).setCell (by simp) _, (rowSet hr (by rw [if_pos (by omega)]) (fun z hz _ => by simp only [lt_succ_of_ne hz])).setOther (by simp) _, rowSet (hrE.setOther (by simp) _) (by rw [if_pos (by omega)]) (fun z hz _ => by simp only [lt_succ_of_ne hz])⟩
                  case measure => simp [intOf]; omega
                · have hqk : q = k := by omega
                  subst hqk
                  have hge4 : ¬ (q : Int) < (q : Int) := by omega
                  have hk2 : (q : Int) < (q : Int) + 1 := by omega
                  have g1 : wr.cell? ⟨w16.heap.size, q, none⟩ = some (.int .i64 0) := by rw [hr.cell (by omega)]; simp only [numRow]; rw [if_neg (by omega)]
                  have f1 : wr.frozen? ⟨w16.heap.size, q, none⟩ = false := hr.frozen _
                  have g2 : wr.cell? ⟨w16.heap.size + 1, q, none⟩ = some (.int .i64 0) := by rw [hrE.cell (by omega)]; simp only [numRow]; rw [if_neg (by omega)]
                  have f2 : wr.frozen? ⟨w16.heap.size + 1, q, none⟩ = false := hrE.frozen _
                  have hra17 : ∀ v u, ((wr.setCell ⟨w16.heap.size, q, none⟩ v).setCell ⟨w16.heap.size + 1, q, none⟩ u).rowIs w8.heap.size 3 (q + m) (numRow .i64 (Rep.cat q A B)) := fun v u => ((hr16.of_block (hbr.block _ hl16)).setOther (by simp; omega) _).setOther (by simp; omega) _
                  have hrW : ((wr.setCell ⟨w16.heap.size, q, none⟩ (.int .i64 2)).setCell ⟨w16.heap.size + 1, q, none⟩ (.int .i64 1)).rowIs w16.heap.size 3 (q + 1) (numRow .i64 (Rep.snoc q A 2)) :=
                    (rowSet hr (by unfold Rep.snoc; rw [if_neg (by omega)]) (fun z hz hz2 => by unfold Rep.snoc; rw [if_pos (by omega), if_pos (by omega)])).setOther (by simp) _
                  have hrR : ((wr.setCell ⟨w16.heap.size, q, none⟩ (.int .i64 2)).setCell ⟨w16.heap.size + 1, q, none⟩ (.int .i64 1)).rowIs (w16.heap.size + 1) 3 (q + 1) (numRow .i64 (Rep.snoc q A 1)) :=
                    rowSet (hrE.setOther (by simp) _) (by unfold Rep.snoc; rw [if_neg (by omega)]) (fun z hz hz2 => by unfold Rep.snoc; rw [if_pos (by omega), if_pos (by omega)])
                  have hB17 : ∀ v u, Below w.heap.size w ((wr.setCell ⟨w16.heap.size, q, none⟩ v).setCell ⟨w16.heap.size + 1, q, none⟩ u) := fun v u => ((hB16.trans (hbr.mono hB16.size)).setCell hB16.size _).setCell (by have := hB16.size; simp; omega) _
                  clear hr hrE hbr hr16 hB16 hx16
                  have hone : ∀ w, (Instr.makeSlice 32 (.int .i64 1) (.int .i64 1)).run Try.prog w = .ok (.slice (some ⟨w.heap.size, 0, none⟩) 1 1) (w.alloc (.cells (madeCells #[.int .i64 0] 1) 3)) := run_make_row' (P := Try.prog) 32 3 (.int .i64 0) 8 Try.underlying32 info3 rfl .i64 .i64 1 (by omega) (by omega)
                  go_wp2_with fail
                  have hra18 := hra17 (.int .i64 2) (.int .i64 1)
                  have hB18 := hB17 (.int .i64 2) (.int .i64 1)
                  generalize (wr.setCell ⟨w16.heap.size, q, none⟩ (.int .i64 2)).setCell ⟨w16.heap.size + 1, q, none⟩ (.int .i64 1) = w18 at *
                  clear hra17 hB17 g1 g2 f1 f2
                  refine (reportOf_any (some ⟨w16.heap.size, 0, none⟩) (q + 1) (q + 1) w16.heap.size 0 (Rep.snoc q A 2) _ (by omega) (View.of_row hrW)).mono ?_
                  rintro e w19 ⟨d19, rfl, hb19, hr19⟩
                  go_wp2_with fail
                  refine (valid_as d19 (q + 1) (Rep.snoc q A 2) true _ (by omega) hr19 (by rw [Rep.valid_warn, hva.out])).mono ?_
                  rintro e w20 ⟨rfl, hb20⟩
                  have hb1820 : Below w18.heap.size w18 w20 := hb19.trans (hb20.mono hb19.size)
                  have hrR20 : w20.rowIs (w16.heap.size + 1) 3 (q + 1) (numRow .i64 (Rep.snoc q A 1)) := hrR.of_block (hb1820.block _ hrR.lt)
                  have hra20 : w20.rowIs w8.heap.size 3 (q + m) (numRow .i64 (Rep.cat q A B)) := hra18.of_block (hb1820.block _ hra18.lt)
                  have hB20 : Below w.heap.size w w20 := hB18.trans (hb1820.mono hB18.size)
                  clear hb19 hb20 hr19 hb1820 hrW hrR hra18 hB18
                  go_wp2_with fail
                  refine (reportOf_any (some ⟨w16.heap.size + 1, 0, none⟩) (q + 1) (q + 1) (w16.heap.size + 1) 0 (Rep.snoc q A 1) _ (by omega) (View.of_row hrR20)).mono ?_
                  rintro e w21 ⟨d21, rfl, hb21, hr21⟩
                  go_wp2_with fail
                  refine (valid_as d21 (q + 1) (Rep.snoc q A 1) false _ (by omega) hr21 (Rep.valid_err q A)).mono ?_
                  rintro e w22 ⟨rfl, hb22⟩
                  have hb2022 : Below w20.heap.size w20 w22 := hb21.trans (hb22.mono hb21.size)
                  have hra22 : w22.rowIs w8.heap.size 3 (q + m) (numRow .i64 (Rep.cat q A B)) := hra20.of_block (hb2022.block _ hra20.lt)
                  have hB22 : Below w.heap.size w w22 := hB20.trans (hb2022.mono hB20.size)
                  have hl22 : w8.heap.size < w22.heap.size := hra22.lt
                  clear hb21 hb22 hr21 hb2022 hrR20 hra20 hB20
                  go_wp2
                  clear hone
                  go_loopw [16] (fun i wr => ∃ z : Nat, z ≤ q + m ∧ i = .int .i64 z ∧ Below w22.heap.size w22 wr ∧ ∃ x, wr.rowIs w22.heap.size 3 1 (numRow .i64 fun _ => x)) (fun i _ => q + m - (intOf i).toNat)
                  case atStart => exact ⟨0, Nat.zero_le _, rfl, (Below.refl _ _).alloc (Nat.le_refl _) _, 0, made_num 1 w22⟩
                  case round =>
                    obtain ⟨z, hz, rfl, hbr, x, hr⟩ := hrel
                    have hra : wr.rowIs w8.heap.size 3 (q + m) (numRow .i64 (Rep.cat q A B)) := hra22.of_block (hbr.block _ hl22)
                    by_cases hlt : z < q + m
                    · have hk1 : (z : Int) < (q : Int) + (m : Int) := by omega
                      have g0 : wr.cell? ⟨w8.heap.size, z, none⟩ = some (.int .i64 (Rep.cat q A B z)) := hra.cell hlt
                      by_cases h1 : Rep.cat q A B z = 1
                      · rw [h1] at g0
                        go_wp2
                        go_roundw
                        case rel => exact ⟨z + 1, by omega, by go_num, hbr, x, hr⟩
                        case measure => simp [intOf]; omega
                      · by_cases h2 : Rep.cat q A B z = 2
                        · rw [h2] at g0
                          go_wp2
                          go_roundw
                          case rel => exact ⟨z + 1, by omega, by go_num, hbr, x, hr⟩
                          case measure => simp [intOf]; omega
                        · have h1' : (Rep.cat q A B z != 1) = true := by rw [bne_iff_ne]; exact h1
                          have h2' : (Rep.cat q A B z != 2) = true := by rw [bne_iff_ne]; exact h2
                          have HV : Hid (Rep.valid (fun _ => Rep.cat q A B z) 1 = true) := Rep.valid_one _ h1
                          have g1 : wr.cell? ⟨w22.heap.size, 0, none⟩ = some (.int .i64 x) := hr.cell (by omega)
                          have f1 : wr.frozen? ⟨w22.heap.size, 0, none⟩ = false := hr.frozen _
                          have hrx : (wr.setCell ⟨w22.heap.size, 0, none⟩ (.int .i64 (Rep.cat q A B z))).rowIs w22.heap.size 3 1 (numRow .i64 fun _ => Rep.cat q A B z) := rowSet hr rfl (fun j hj hj2 => by omega)
                          have hbx : Below w22.heap.size w22 (wr.setCell ⟨w22.heap.size, 0, none⟩ (.int .i64 (Rep.cat q A B z))) := hbr.setCell (Nat.le_refl _) _
                          clear h1 h2 hr hra hbr
                          go_wp2_with fail
                          generalize wr.setCell ⟨w22.heap.size, 0, none⟩ (.int .i64 (Rep.cat q A B z)) = w23 at *
                          refine (reportOf_any (some ⟨w22.heap.size, 0, none⟩) 1 1 w22.heap.size 0 (fun _ => Rep.cat q A B z) _ (by omega) (View.of_row hrx)).mono ?_
                          rintro e w24 ⟨d24, rfl, hb24, hr24⟩
                          go_wp2_with fail
                          refine (valid_as d24 1 (fun _ => Rep.cat q A B z) true _ (by omega) hr24 HV.out).mono ?_
                          rintro e w25 ⟨rfl, hb25⟩
                          have hb2325 : Below w23.heap.size w23 w25 := hb24.trans (hb25.mono hb24.size)
                          have hr25 := hrx.of_block (hb2325.block _ hrx.lt)
                          have hbz : Below w22.heap.size w22 w25 := hbx.trans (hb2325.mono (Nat.le_of_lt hrx.lt))
                          clear hb24 hb25 hr24 hrx hbx hb2325 g0 g1 f1
                          go_wp2
                          go_roundw
                          case rel => exact ⟨z + 1, by omega, by go_num, hbz, _, hr25⟩
                          case measure => simp [intOf]; omega
                    · have hge5 : ¬ (z : Int) < (q : Int) + (m : Int) := by omega
                      have hBz : Below w.heap.size w wr := hB22.trans (hbr.mono hB22.size)
                      go_wp2
                      go_ret
                      exact ⟨rfl, hBz⟩

set_option maxHeartbeats 4000000 in
set_option maxRecDepth 100000 in
theorem repMainF (a0 a1 : Option Addr) (n c m c1 b off d off1 : Nat) (A B : Nat → Int) (vb : Bool) (w : World) (hv : View .i64 w a0 n b off A) (hv1 : View .i64 w a1 m d off1 B) (hnm : n + m ≤ 65536) (hva : Hid (Rep.valid A n = false)) (hvb : Hid (Rep.valid B m = vb)) :
    Calls Try.prog 5 #[.slice a0 n c, .slice a1 m c1] w fun e w' => e = .returned (.bool true) ∧ Below w.heap.size w w' := by
  have c14 : ∀ w, Calls Try.prog 14 #[.slice a0 n c, .slice a1 m c1] w fun e w' => e = .returned (.bool true) ∧ w = w' := fun w => by
    go_enter Try.func14, Try.ntmps14
    go_wp2
    go_ret
    exact ⟨rfl, rfl⟩
  have hnm' : ¬ (65536 : Int) < (n : Int) + (m : Int) := by omega
  have hmk0 := run_make_row' (P := Try.prog) 32 3 (.int .i64 0) 8 Try.underlying32 info3 rfl .i64 .i64 (n + m) (by omega) (by omega)
  have hmk : ∀ w, (Instr.makeSlice 32 (.int .i64 ((n : Int) + (m : Int))) (.int .i64 ((n : Int) + (m : Int)))).run Try.prog w = .ok (.slice (some ⟨w.heap.size, 0, none⟩) (n + m) (n + m)) (w.alloc (.cells (madeCells #[.int .i64 0] (n + m)) 3)) := by
    intro w; have := hmk0 w; simpa using this
  clear hmk0
  go_enter Try.func5, Try.ntmps5
  go_wp2_with fail
  refine (c14 _).mono ?_
  rintro e w' ⟨rfl, rfl⟩
  go_wp2_with fail
  refine (cloneInts_any a0 n c b off A _ (by omega) hv).mono ?_
  rintro e w1 ⟨ax, cx, rfl, hb1, hx1⟩
  have hy0 := hv1.later hb1 (Nat.le_refl _)
  go_wp2_with fail
  refine (cloneInts_any a1 m c1 d off1 B _ (by omega) hy0).mono ?_
  rintro e w2 ⟨ay, cy, rfl, hb2, hy2⟩
  have hx2 := hx1.later hb2 (Nat.le_refl _)
  have hB2 : Below w.heap.size w w2 := hb1.trans (hb2.mono hb1.size)
  clear hb1 hb2 hx1 hy0
  go_wp2_with fail
  refine (reportOf_any none 0 0 0 0 (fun _ => 0) _ (by omega) ⟨fun h => by omega, fun i hi => by omega⟩).mono ?_
  rintro e w3 ⟨d3, rfl, hb3, hr3⟩
  go_wp2_with fail
  refine (valid_as d3 0 (fun _ => 0) true _ (by omega) hr3 rfl).mono ?_
  rintro e w4 ⟨rfl, hb4⟩
  have hb24 : Below w2.heap.size w2 w4 := hb3.trans (hb4.mono hb3.size)
  have hx4 := hx2.later hb24 (Nat.le_refl _)
  have hy4 := hy2.later hb24 (Nat.le_refl _)
  have hB4 : Below w.heap.size w w4 := hB2.trans (hb24.mono hB2.size)
  clear hb3 hb4 hr3 hx2 hy2 hB2 hb24
  go_wp2_with fail
  refine (reportOf_any ax n cx w.heap.size 0 A _ (by omega) hx4).mono ?_
  rintro e w5 ⟨d5, rfl, hb5, hr5⟩
  go_wp2_with fail
  refine (valid_as d5 n A _ _ (by omega) hr5 hva.out).mono ?_
  rintro e w6 ⟨rfl, hb6⟩
  have hb46 : Below w4.heap.size w4 w6 := hb5.trans (hb6.mono hb5.size)
  have hx6 := hx4.later hb46 (Nat.le_refl _)
  have hy6 := hy4.later hb46 (Nat.le_refl _)
  have hB6 : Below w.heap.size w w6 := hB4.trans (hb46.mono hB4.size)
  clear hb5 hb6 hr5 hx4 hy4 hB4 hb46
  go_wp2_with fail
  refine (reportOf_any ay m cy w1.heap.size 0 B _ (by omega) hy6).mono ?_
  rintro e w7 ⟨d7, rfl, hb7, hr7⟩
  go_wp2_with fail
  refine (valid_as d7 m B _ _ (by omega) hr7 hvb.out).mono ?_
  rintro e w8 ⟨rfl, hb8⟩
  have hb68 : Below w6.heap.size w6 w8 := hb7.trans (hb8.mono hb7.size)
  have hx8 := hx6.later hb68 (Nat.le_refl _)
  have hy8 := hy6.later hb68 (Nat.le_refl _)
  have hB8 : Below w.heap.size w w8 := hB6.trans (hb68.mono hB6.size)
  clear hb7 hb8 hr7 hx6 hy6 hB6 hb68
  go_wp2
  go_loopw [8] (fun i wr => ∃ k : Nat, k ≤ n ∧ i = .int .i64 k ∧ Below w8.heap.size w8 wr ∧ wr.rowIs w8.heap.size 3 (n + m) (numRow .i64 fun j => if j < k then A j else 0)) (fun i _ => n - (intOf i).toNat)
  case atStart => exact ⟨0, Nat.zero_le _, rfl, (Below.refl _ _).alloc (Nat.le_refl _) _, (made_num (n + m) w8).congr fun i _ => by simp [numRow]⟩
  case round =>
    obtain ⟨k, hk, rfl, hbr, hr⟩ := hrel
    by_cases hlt : k < n
    · obtain rfl := hx8.1 (by omega)
      have hk1 : (k : Int) < (n : Int) := by omega
      have hk2 : (k : Int) < (n : Int) + (m : Int) := by omega
      have g0 : wr.cell? ⟨w.heap.size, k, none⟩ = some (.int .i64 (A k)) := by have := (hx8.later hbr (Nat.le_refl _)).2 k hlt; rwa [Nat.zero_add] at this
      have g1 : wr.cell? ⟨w8.heap.size, k, none⟩ = some (.int .i64 0) := by rw [hr.cell (by omega)]; simp [numRow]
      have f1 : wr.frozen? ⟨w8.heap.size, k, none⟩ = false := hr.frozen k
      go_wp2
      go_roundw
      case rel => exact ⟨k + 1, by omega, by go_num, hbr.setCell (Nat.le_refl _) _, rowSet hr (by simp) (fun j hj _ => by simp only [lt_succ_of_ne hj])⟩
      case measure => simp [intOf]; omega
    · have hkn : k = n := by omega
      subst hkn
      have hr9 : wr.rowIs w8.heap.size 3 (k + m) (numRow .i64 fun j => if j < k + 0 then Rep.cat k A B j else 0) := hr.congr fun j _ => by
        simp only [numRow, Rep.cat, Nat.add_zero]; split <;> rfl
      have hb9 := hbr
      clear hr hbr hk hlt
      go_wp2
      go_loopw [9] (fun i wr => ∃ j : Nat, j ≤ m ∧ i = .int .i64 j ∧ Below w8.heap.size w8 wr ∧ wr.rowIs w8.heap.size 3 (k + m) (numRow .i64 fun q => if q < k + j then Rep.cat k A B q else 0)) (fun i _ => m - (intOf i).toNat)
      case atStart => exact ⟨0, Nat.zero_le _, rfl, hb9, hr9⟩
      case round =>
        rename_i wr9
        clear hr9 hb9
        obtain ⟨j, hj, rfl, hbr, hr⟩ := hrel
        by_cases hlt : j < m
        · obtain rfl := hy8.1 (by omega)
          have hk1 : (j : Int) < (m : Int) := by omega
          have hk2 : (k : Int) + (j : Int) < (k : Int) + (m : Int) := by omega
          have g0 : wr.cell? ⟨w1.heap.size, j, none⟩ = some (.int .i64 (B j)) := by have := (hy8.later hbr (Nat.le_refl _)).2 j hlt; rwa [Nat.zero_add] at this
          have g1 : wr.cell? ⟨w8.heap.size, k + j, none⟩ = some (.int .i64 0) := by rw [hr.cell (by omega)]; simp only [numRow]; rw [if_neg (by omega)]
          have f1 : wr.frozen? ⟨w8.heap.size, k + j, none⟩ = false := hr.frozen _
          go_wp2
          go_roundw
          case rel => exact ⟨j + 1, by omega, by go_num, hbr.setCell (Nat.le_refl _) _, rowSet hr (by simp only [← Nat.add_assoc]; rw [if_pos (by omega)]; simp only [Rep.cat]; rw [if_neg (by omega), show k + j - k = j by omega]) (fun q hq _ => by simp only [← Nat.add_assoc, lt_succ_of_ne hq])⟩
          case measure => simp [intOf]; omega
        · have hr11 : wr.rowIs w8.heap.size 3 (k + m) (numRow .i64 (Rep.cat k A B)) := hr.congr fun q hq => by
            simp only [numRow]; rw [if_pos (by omega)]
          have hx11 := hx8.later hbr (Nat.le_refl _)
          have hB11 : Below w.heap.size w wr := hB8.trans (hbr.mono hB8.size)
          obtain ⟨N, hN⟩ : ∃ N, N = w8.heap.size := ⟨_, rfl⟩
          have HN : Hid (N = w8.heap.size) := hN
          have hge : ¬ (j : Int) < (m : Int) := by omega
          clear hN hr hbr hlt hj hx8 hy8 hB8 hv hv1
          go_wp2_with fail
          refine (reportOf_any (some ⟨w8.heap.size, 0, none⟩) (k + m) (k + m) w8.heap.size 0 (Rep.cat k A B) _ (by omega) (View.of_row hr11)).mono ?_
          rintro e w12 ⟨d12, rfl, hb12, hr12⟩
          go_wp2_with fail
          refine (valid_as d12 (k + m) (Rep.cat k A B) false _ (by omega) hr12 (by rw [Rep.valid_cat, hva.out, hvb.out]; rfl)).mono ?_
          rintro e w13 ⟨rfl, hb13⟩
          have hb1113 : Below wr.heap.size wr w13 := hb12.trans (hb13.mono hb12.size)
          have hx13 := hx11.later hb1113 (Nat.le_refl _)
          have hr13 : w13.rowIs w8.heap.size 3 (k + m) (numRow .i64 (Rep.cat k A B)) := hr11.of_block (hb1113.block _ hr11.lt)
          have hB13 : Below w.heap.size w w13 := hB11.trans (hb1113.mono hB11.size)
          clear hb12 hb13 hr12 hx11 hr11 hB11 hb1113
          have hl13 : w8.heap.size < w13.heap.size := hr13.lt
          go_wp2
          go_loopw [11] (fun i wr => ∃ q : Nat, q ≤ k + m ∧ i = .int .i64 q ∧ Below w13.heap.size w13 wr ∧ wr.rowIs w13.heap.size 3 (k + m) (numRow .i64 fun z => if z < q then Rep.rev (k + m) (Rep.cat k A B) z else 0)) (fun i _ => k + m - (intOf i).toNat)
          case atStart => exact ⟨0, Nat.zero_le _, rfl, (Below.refl _ _).alloc (Nat.le_refl _) _, (made_num (k + m) w13).congr fun i _ => by simp [numRow]⟩
          case round =>
            obtain ⟨q, hq, rfl, hbr, hr⟩ := hrel
            have hra : wr.rowIs w8.heap.size 3 (k + m) (numRow .i64 (Rep.cat k A B)) := hr13.of_block (hbr.block _ hl13)
            by_cases hlt : q < k + m
            · have hk1 : (q : Int) < (k : Int) + (m : Int) := by omega
              have g0 : wr.cell? ⟨w8.heap.size, k + m - 1 - q, none⟩ = some (.int .i64 (Rep.rev (k + m) (Rep.cat k A B) q)) := by rw [hra.cell (by omega)]; rfl
              have g1 : wr.cell? ⟨w13.heap.size, q, none⟩ = some (.int .i64 0) := by rw [hr.cell (by omega)]; simp only [numRow]; rw [if_neg (by omega)]
              have f1 : wr.frozen? ⟨w13.heap.size, q, none⟩ = false := hr.frozen _
              go_wp2
              go_roundw
              case rel => exact ⟨q + 1, by omega, by go_num, hbr.setCell (Nat.le_refl _) _, rowSet hr (by rw [if_pos (by omega)]) (fun z hz _ => by simp only [lt_succ_of_ne hz])⟩
              case measure => simp [intOf]; omega
            · have hr14 : wr.rowIs w13.heap.size 3 (k + m) (numRow .i64 (Rep.rev (k + m) (Rep.cat k A B))) := hr.congr fun z hz => by
                simp only [numRow]; rw [if_pos (by omega)]
              have hx14 := hx13.later hbr (Nat.le_refl _)
              have hB14 : Below w.heap.size w wr := hB13.trans (hbr.mono hB13.size)
              have hgeq : ¬ (q : Int) < (k : Int) + (m : Int) := by omega
              clear hr hbr hlt hq hx13 hB13 hr13 hl13 hmk
              go_wp2_with fail
              refine (reportOf_any (some ⟨w13.heap.size, 0, none⟩) (k + m) (k + m) w13.heap.size 0 (Rep.rev (k + m) (Rep.cat k A B)) _ (by omega) (View.of_row hr14)).mono ?_
              rintro e w15 ⟨d15, rfl, hb15, hr15⟩
              go_wp2_with fail
              refine (valid_as d15 (k + m) (Rep.rev (k + m) (Rep.cat k A B)) false _ (by omega) hr15 (by rw [Rep.valid_rev, Rep.valid_cat, hva.out, hvb.out]; rfl)).mono ?_
              rintro e w16 ⟨rfl, hb16⟩
              have hb1416 : Below wr.heap.size wr w16 := hb15.trans (hb16.mono hb15.size)
              have hx16 := hx14.later hb1416 (Nat.le_refl _)
              have hr16 : w16.rowIs w8.heap.size 3 (k + m) (numRow .i64 (Rep.cat k A B)) := hra.of_block (hb1416.block _ hra.lt)
              have hB16 : Below w.heap.size w w16 := hB14.trans (hb1416.mono hB14.size)
              have hmk0 := run_make_row' (P := Try.prog) 32 3 (.int .i64 0) 8 Try.underlying32 info3 rfl .i64 .i64 (k + 1) (by omega) (by omega)
              have hmk : ∀ w, (Instr.makeSlice 32 (.int .i64 ((k : Int) + 1)) (.int .i64 ((k : Int) + 1))).run Try.prog w = .ok (.slice (some ⟨w.heap.size, 0, none⟩) (k + 1) (k + 1)) (w.alloc (.cells (madeCells #[.int .i64 0] (k + 1)) 3)) := by
                intro w; have := hmk0 w; simpa using this
              clear hb15 hb16 hr15 hx14 hr14 hra hB14 hb1416 hmk0
              have hl16 : w8.heap.size < w16.heap.size := hr16.lt
              go_wp2
              clear hmk
              go_loopw [14] (fun i wr => ∃ q : Nat, q ≤ k ∧ i = .int .i64 q ∧ Below w16.heap.size w16 wr ∧ wr.rowIs w16.heap.size 3 (k + 1) (numRow .i64 fun z => if z < q then A z else 0) ∧ wr.rowIs (w16.heap.size + 1) 3 (k + 1) (numRow .i64 fun z => if z < q then A z else 0)) (fun i _ => k - (intOf i).toNat)
              case atStart =>
                refine ⟨0, Nat.zero_le _, rfl, ((Below.refl _ _).alloc (Nat.le_refl _) _).alloc (by simp) _, ((made_num (k + 1) w16).alloc _).congr fun i _ => by simp [numRow], ?_⟩
                have h := made_num (k + 1) (w16.alloc (.cells (madeCells #[.int .i64 0] (k + 1)) 3))
                simp only [World.size_alloc] at h
                exact h.congr fun i _ => by simp [numRow]
              case round =>
                obtain ⟨q, hq, rfl, hbr, hr, hrE⟩ := hrel
                by_cases hlt : q < k
                · obtain rfl := hx16.1 (by omega)
                  have hk1 : (q : Int) < (k : Int) := by omega
                  have hk2 : (q : Int) < (k : Int) + 1 := by omega
                  have gx := hx16.2 q hlt
                  rw [Nat.zero_add] at gx
                  have hl0 : w.heap.size < w16.heap.size := World.block_lt_of_cell? _ _ gx
                  have g0 : wr.cell? ⟨w.heap.size, q, none⟩ = some (.int .i64 (A q)) := (hbr.cell (p := ⟨w.heap.size, q, none⟩) hl0).trans gx
                  have g1 : wr.cell? ⟨w16.heap.size, q, none⟩ = some (.int .i64 0) := by rw [hr.cell (by omega)]; simp only [numRow]; rw [if_neg (by omega)]
                  have f1 : wr.frozen? ⟨w16.heap.size, q, none⟩ = false := hr.frozen _
                  have g2 : wr.cell? ⟨w16.heap.size + 1, q, none⟩ = some (.int .i64 0) := by rw [hrE.cell (by omega)]; simp only [numRow]; rw [if_neg (by omega)]
                  have f2 : wr.frozen? ⟨w16.heap.size + 1, q, none⟩ = false := hrE.frozen _
                  clear gx
                  go_wp2
                  go_roundw
                  case rel => exact ⟨q + 1, by omega, by go_num, (hbr.setCell (Nat.le_refl _) _).setCell (by simp) _, (rowSet hr (by rw [if_pos (by omega)]) (fun z hz _ => by simp only [lt_succ_of_ne hz])).setOther (by simp) _, rowSet (hrE.setOther (by simp) _) (by rw [if_pos (by omega)]) (fun z hz _ => by simp only [lt_succ_of_ne hz])⟩
                  case measure => simp [intOf]; omega
                · have hqk : q = k := by omega
                  subst hqk
                  have hge4 : ¬ (q : Int) < (q : Int) := by omega
                  have hk2 : (q : Int) < (q : Int) + 1 := by omega
                  have g1 : wr.cell? ⟨w16.heap.size, q, none⟩ = some (.int .i64 0) := by rw [hr.cell (by omega)]; simp only [numRow]; rw [if_neg (by omega)]
                  have f1 : wr.frozen? ⟨w16.heap.size, q, none⟩ = false := hr.frozen _
                  have g2 : wr.cell? ⟨w16.heap.size + 1, q, none⟩ = some (.int .i64 0) := by rw [hrE.cell (by omega)]; simp only [numRow]; rw [if_neg (by omega)]
                  have f2 : wr.frozen? ⟨w16.heap.size + 1, q, none⟩ = false := hrE.frozen _
                  have hra17 : ∀ v u, ((wr.setCell ⟨w16.heap.size, q, none⟩ v).setCell ⟨w16.heap.size + 1, q, none⟩ u).rowIs w8.heap.size 3 (q + m) (numRow .i64 (Rep.cat q A B)) := fun v u => ((hr16.of_block (hbr.block _ hl16)).setOther (by simp; omega) _).setOther (by simp; omega) _
                  have hrW : ((wr.setCell ⟨w16.heap.size, q, none⟩ (.int .i64 2)).setCell ⟨w16.heap.size + 1, q, none⟩ (.int .i64 1)).rowIs w16.heap.size 3 (q + 1) (numRow .i64 (Rep.snoc q A 2)) :=
                    (rowSet hr (by unfold Rep.snoc; rw [if_neg (by omega)]) (fun z hz hz2 => by unfold Rep.snoc; rw [if_pos (by omega), if_pos (by omega)])).setOther (by simp) _
                  have hrR : ((wr.setCell ⟨w16.heap.size, q, none⟩ (.int .i64 2)).setCell ⟨w16.heap.size + 1, q, none⟩ (.int .i64 1)).rowIs (w16.heap.size + 1) 3 (q + 1) (numRow .i64 (Rep.snoc q A 1)) :=
                    rowSet (hrE.setOther (by simp) _) (by unfold Rep.snoc; rw [if_neg (by omega)]) (fun z hz hz2 => by unfold Rep.snoc; rw [if_pos (by omega), if_pos (by omega)])
                  have hB17 : ∀ v u, Below w.heap.size w ((wr.setCell ⟨w16.heap.size, q, none⟩ v).setCell ⟨w16.heap.size + 1, q, none⟩ u) := fun v u => ((hB16.trans (hbr.mono hB16.size)).setCell hB16.size _).setCell (by have := hB16.size; simp; omega) _
                  clear hr hrE hbr hr16 hB16 hx16
                  have hone : ∀ w, (Instr.makeSlice 32 (.int .i64 1) (.int .i64 1)).run Try.prog w = .ok (.slice (some ⟨w.heap.size, 0, none⟩) 1 1) (w.alloc (.cells (madeCells #[.int .i64 0] 1) 3)) := run_make_row' (P := Try.prog) 32 3 (.int .i64 0) 8 Try.underlying32 info3 rfl .i64 .i64 1 (by omega) (by omega)
                  go_wp2_with fail
                  have hra18 := hra17 (.int .i64 2) (.int .i64 1)
                  have hB18 := hB17 (.int .i64 2) (.int .i64 1)
                  generalize (wr.setCell ⟨w16.heap.size, q, none⟩ (.int .i64 2)).setCell ⟨w16.heap.size + 1, q, none⟩ (.int .i64 1) = w18 at *
                  clear hra17 hB17 g1 g2 f1 f2
                  refine (reportOf_any (some ⟨w16.heap.size, 0, none⟩) (q + 1) (q + 1) w16.heap.size 0 (Rep.snoc q A 2) _ (by omega) (View.of_row hrW)).mono ?_
                  rintro e w19 ⟨d19, rfl, hb19, hr19⟩
                  go_wp2_with fail
                  refine (valid_as d19 (q + 1) (Rep.snoc q A 2) false _ (by omega) hr19 (by rw [Rep.valid_warn, hva.out])).mono ?_
                  rintro e w20 ⟨rfl, hb20⟩
                  have hb1820 : Below w18.heap.size w18 w20 := hb19.trans (hb20.mono hb19.size)
                  have hrR20 : w20.rowIs (w16.heap.size + 1) 3 (q + 1) (numRow .i64 (Rep.snoc q A 1)) := hrR.of_block (hb1820.block _ hrR.lt)
                  have hra20 : w20.rowIs w8.heap.size 3 (q + m) (numRow .i64 (Rep.cat q A B)) := hra18.of_block (hb1820.block _ hra18.lt)
                  have hB20 : Below w.heap.size w w20 := hB18.trans (hb1820.mono hB18.size)
                  clear hb19 hb20 hr19 hb1820 hrW hrR hra18 hB18
                  go_wp2_with fail
                  refine (reportOf_any (some ⟨w16.heap.size + 1, 0, none⟩) (q + 1) (q + 1) (w16.heap.size + 1) 0 (Rep.snoc q A 1) _ (by omega) (View.of_row hrR20)).mono ?_
                  rintro e w21 ⟨d21, rfl, hb21, hr21⟩
                  go_wp2_with fail
                  refine (valid_as d21 (q + 1) (Rep.snoc q A 1) false _ (by omega) hr21 (Rep.valid_err q A)).mono ?_
                  rintro e w22 ⟨rfl, hb22⟩
                  have hb2022 : Below w20.heap.size w20 w22 := hb21.trans (hb22.mono hb21.size)
                  have hra22 : w22.rowIs w8.heap.size 3 (q + m) (numRow .i64 (Rep.cat q A B)) := hra20.of_block (hb2022.block _ hra20.lt)
                  have hB22 : Below w.heap.size w w22 := hB20.trans (hb2022.mono hB20.size)
                  have hl22 : w8.heap.size < w22.heap.size := hra22.lt
                  clear hb21 hb22 hr21 hb2022 hrR20 hra20 hB20
                  go_wp2
                  clear hone
                  go_loopw [16] (fun i wr => ∃ z : Nat, z ≤ q + m ∧ i = .int .i64 z ∧ Below w22.heap.size w22 wr ∧ ∃ x, wr.rowIs w22.heap.size 3 1 (numRow .i64 fun _ => x)) (fun i _ => q + m - (intOf i).toNat)
                  case atStart => exact ⟨0, Nat.zero_le _, rfl, (Below.refl _ _).alloc (Nat.le_refl _) _, 0, made_num 1 w22⟩
                  case round =>
                    obtain ⟨z, hz, rfl, hbr, x, hr⟩ := hrel
                    have hra : wr.rowIs w8.heap.size 3 (q + m) (numRow .i64 (Rep.cat q A B)) := hra22.of_block (hbr.block _ hl22)
                    by_cases hlt : z < q + m
                    · have hk1 : (z : Int) < (q : Int) + (m : Int) := by omega
                      have g0 : wr.cell? ⟨w8.heap.size, z, none⟩ = some (.int .i64 (Rep.cat q A B z)) := hra.cell hlt
                      by_cases h1 : Rep.cat q A B z = 1
                      · rw [h1] at g0
                        go_wp2
                        go_roundw
                        case rel => exact ⟨z + 1, by omega, by go_num, hbr, x, hr⟩
                        case measure => simp [intOf]; omega
                      · by_cases h2 : Rep.cat q A B z = 2
                        · rw [h2] at g0
                          go_wp2
                          go_roundw
                          case rel => exact ⟨z + 1, by omega, by go_num, hbr, x, hr⟩
                          case measure => simp [intOf]; omega
                        · have h1' : (Rep.cat q A B z != 1) = true := by rw [bne_iff_ne]; exact h1
                          have h2' : (Rep.cat q A B z != 2) = true := by rw [bne_iff_ne]; exact h2
                          have HV : Hid (Rep.valid (fun _ => Rep.cat q A B z) 1 = true) := Rep.valid_one _ h1
                          have g1 : wr.cell? ⟨w22.heap.size, 0, none⟩ = some (.int .i64 x) := hr.cell (by omega)
                          have f1 : wr.frozen? ⟨w22.heap.size, 0, none⟩ = false := hr.frozen _
                          have hrx : (wr.setCell ⟨w22.heap.size, 0, none⟩ (.int .i64 (Rep.cat q A B z))).rowIs w22.heap.size 3 1 (numRow .i64 fun _ => Rep.cat q A B z) := rowSet hr rfl (fun j hj hj2 => by omega)
                          have hbx : Below w22.heap.size w22 (wr.setCell ⟨w22.heap.size, 0, none⟩ (.int .i64 (Rep.cat q A B z))) := hbr.setCell (Nat.le_refl _) _
                          clear h1 h2 hr hra hbr
                          go_wp2_with fail
                          generalize wr.setCell ⟨w22.heap.size, 0, none⟩ (.int .i64 (Rep.cat q A B z)) = w23 at *
                          refine (reportOf_any (some ⟨w22.heap.size, 0, none⟩) 1 1 w22.heap.size 0 (fun _ => Rep.cat q A B z) _ (by omega) (View.of_row hrx)).mono ?_
                          rintro e w24 ⟨d24, rfl, hb24, hr24⟩
                          go_wp2_with fail
                          refine (valid_as d24 1 (fun _ => Rep.cat q A B z) true _ (by omega) hr24 HV.out).mono ?_
                          rintro e w25 ⟨rfl, hb25⟩
                          have hb2325 : Below w23.heap.size w23 w25 := hb24.trans (hb25.mono hb24.size)
                          have hr25 := hrx.of_block (hb2325.block _ hrx.lt)
                          have hbz : Below w22.heap.size w22 w25 := hbx.trans (hb2325.mono (Nat.le_of_lt hrx.lt))
                          clear hb24 hb25 hr24 hrx hbx hb2325 g0 g1 f1
                          go_wp2
                          go_roundw
                          case rel => exact ⟨z + 1, by omega, by go_num, hbz, _, hr25⟩
                          case measure => simp [intOf]; omega
                    · have hge5 : ¬ (z : Int) < (q : Int) + (m : Int) := by omega
                      have hBz : Below w.heap.size w wr := hB22.trans (hbr.mono hB22.size)
                      go_wp2
                      go_ret
                      exact ⟨rfl, hBz⟩

theorem repMain (a0 a1 : Option Addr) (n c m c1 b off d off1 : Nat) (A B : Nat → Int) (w : World) (hv : View .i64 w a0 n b off A) (hv1 : View .i64 w a1 m d off1 B) (hnm : n + m ≤ 65536) :
    Calls Try.prog 5 #[.slice a0 n c, .slice a1 m c1] w fun e w' => e = .returned (.bool true) ∧ Below w.heap.size w w' := by
  cases h : Rep.valid A n with
  | true => exact repMainT a0 a1 n c m c1 b off d off1 A B _ w hv hv1 hnm h rfl
  | false => exact repMainF a0 a1 n c m c1 b off d off1 A B _ w hv hv1 hnm h rfl
end Go.Proofs.Qxb6003732a
