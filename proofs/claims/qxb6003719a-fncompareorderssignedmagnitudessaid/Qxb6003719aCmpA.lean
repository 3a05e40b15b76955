/-
  A law for storing a whole array; the walks of padG2, signModelG2.
-/
import Derived.Test.Qxb6003719aWords
import Derived.Test.Qxb6003719aCmpPlain
import Derived.Laws.CopyOwn
namespace Go.Proofs.Qxb6003719a
open Go.RowKit

theorem run_storeVar_row {P : Program} (w : World) (g : Nat) (t ty : TypeId) (cs cur : Array Value) (hg : w.heap[g]? = some (.cells cur t (0, 0))) (hi : (P.info? ty).map (·.size) = some cs.size)
    (hcs : cur.size = cs.size) (h1 : ∀ v ∈ cs.toList, v.oneCell' = true) : (storeVar ty ⟨g, 0, none⟩ (.agg cs)).run P w = .ok () (w.setRow g cs) := by
  have hst := run_storeCells_at P g 0 t cs.toList 0 cur w hg (by simp [hcs]) h1
  have e : (cur.toList.take (0 + 0) ++ cs.toList ++ cur.toList.drop (0 + 0 + cs.toList.length)).toArray = cs := by
    rw [List.drop_of_length_le (by simp [hcs])]
    simp
  rw [e] at hst
  cases hq : P.info? ty with
  | none => simp [hq] at hi
  | some i =>
    have hs : i.size = cs.size := by simpa [hq] using hi
    simp [storeVar, Value.cells, sizeOf, typeInfo, hq, hs, hst]

/-- A WHOLE ARRAY STORED INTO A VARIABLE OF ITS OWN. -/
theorem wpList_store_row {P : Program} {ops : Array Oper} {rest : List Oper} {o : Oper} {a : Act} {w : World} {Q : Exit → Act → World → Prop} (hgd : o.guard = none) (ty : TypeId) (x y : Operand) (ho : o.op = .store ty x y)
    (g : Nat) (hx : a.eval x = .pointer (some ⟨g, 0, none⟩)) (cs : Array Value) (hy : a.eval y = .agg cs) (cur : Array Value) (t : TypeId) (hg : w.heap[g]? = some (.cells cur t (0, 0)))
    (hi : (P.info? ty).map (·.size) = some cs.size) (hcs : cur.size = cs.size) (h1 : ∀ v ∈ cs.toList, v.oneCell' = true) (B : Nat) (w0 : World) (hb : Below B w0 w) (hB : B ≤ g)
    (h : ∀ w', Hid (w'.heap[g]? = some (.cells cs t (0, 0))) → Below B w0 w' → Hid (w'.heap.size = w.heap.size) → wpList P ops Q rest (a.put o.dst undef) w') : wpList P ops Q (o :: rest) a w := by
  refine wpList_plain hgd fun K hK => ?_
  have hrun := run_storeVar_row (P := P) w g t ty cs cur hg hi hcs h1
  unfold Oper.wp
  simp [execOp, ho, hx, hy, Instr.storeAt, Instr.sureAddr, hrun, Result.andThen]
  exact hK _ _ (h _ (setRow_heap w g _ _ t _ hg) (below_setRow hb hB _) (setRow_size w g cs))

/-- Twelve words as an array's cells. -/
def arr12 (P : Nat → Nat) : Array Value := #[.int .u64 ((P 0 : Nat) : Int), .int .u64 ((P 1 : Nat) : Int), .int .u64 ((P 2 : Nat) : Int), .int .u64 ((P 3 : Nat) : Int), .int .u64 ((P 4 : Nat) : Int), .int .u64 ((P 5 : Nat) : Int), .int .u64 ((P 6 : Nat) : Int), .int .u64 ((P 7 : Nat) : Int), .int .u64 ((P 8 : Nat) : Int), .int .u64 ((P 9 : Nat) : Int), .int .u64 ((P 10 : Nat) : Int), .int .u64 ((P 11 : Nat) : Int)]
theorem size12 (P : Nat → Nat) : (arr12 P).size = 12 := rfl
theorem row12 (P : Nat → Nat) (i : Nat) (hi : i < 12) : (arr12 P)[i]? = some (wordRow P i) := by
  match i, hi with
  | 0, _ => rfl
  | 1, _ => rfl
  | 2, _ => rfl
  | 3, _ => rfl
  | 4, _ => rfl
  | 5, _ => rfl
  | 6, _ => rfl
  | 7, _ => rfl
  | 8, _ => rfl
  | 9, _ => rfl
  | 10, _ => rfl
  | 11, _ => rfl
theorem one12 (P : Nat → Nat) : ∀ v ∈ (arr12 P).toList, v.oneCell' = true := by
  intro v hv
  obtain ⟨i, hi, rfl⟩ := List.getElem_of_mem hv
  have h := row12 P i (by simpa [size12] using hi)
  have h2 : (arr12 P).toList[i]? = some ((arr12 P).toList[i]) := List.getElem?_eq_getElem hi
  rw [Array.getElem?_toList, h] at h2
  rw [← Option.some.inj h2]; rfl
theorem row12_of {w : World} {b : Nat} {t : TypeId} (P : Nat → Nat) (h : w.heap[b]? = some (.cells (arr12 P) t (0, 0))) : w.rowIs b t 12 (wordRow P) :=
  ⟨_, h, rfl, fun i hi => row12 P i hi⟩
theorem row12_to {w : World} {b : Nat} {t : TypeId} (P : Nat → Nat) (h : w.rowIs b t 12 (wordRow P)) : w.heap[b]? = some (.cells (arr12 P) t (0, 0)) := by
  obtain ⟨c, h1, h2, h3⟩ := h
  rw [h1]
  congr 2
  apply Array.ext_getElem?
  intro i
  by_cases hi : i < 12
  · rw [h3 i hi, row12 P i hi]
  · rw [Array.getElem?_eq_none (by omega), Array.getElem?_eq_none (by rw [size12]; omega)]
theorem info32 (P : Nat → Nat) : (Try.prog.info? 32).map (·.size) = some (arr12 P).size := by rw [size12]; kernel_rfl
def zero12 : Nat → Nat := fun _ => 0

set_option maxHeartbeats 400000 in
theorem sign_any (neg : Bool) (P : Nat → Nat) (w : World) :
    Calls Try.prog 13 #[.bool neg, .agg (arr12 P)] w fun e w' => e = .returned (.int .i64 (Cmp.sgn neg P)) ∧ Below w.heap.size w w' ∧ w.heap.size < w'.heap.size := by
  go_enter Try.func13, Try.ntmps13
  go_wp2
  go_loop [5, 6] (fun z i => ∃ k : Nat, k ≤ 12 ∧ i = .int .i64 k ∧ z = .bool (Cmp.zeroB P k)) (fun _ i => 12 - (intOf i).toNat)
  case atStart => exact ⟨0, Nat.zero_le _, rfl, rfl⟩
  case round =>
    obtain ⟨k, hk, rfl, rfl⟩ := hrel
    by_cases hlt : k < 12
    · have hk1 : (k : Int) < 12 := by omega
      have g1 : (w.alloc (.cells (arr12 P) 32)).cell? ⟨w.heap.size, k, none⟩ = some (.int .u64 ((P k : Nat) : Int)) := (row12_of P (heap_alloc_new w (.cells (arr12 P) 32))).cell hlt
      by_cases hz : P k = 0
      · rw [hz] at g1
        go_wp2
        go_round
        case rel => exact ⟨k + 1, by omega, by go_num, by simp [Cmp.zeroB, hz]⟩
        case measure => simp [intOf]; omega
      · have hz' : (((P k : Nat) : Int) != 0) = true := by rw [bne_iff_ne]; omega
        go_wp2
        go_round
        case rel => exact ⟨k + 1, by omega, by go_num, by simp [Cmp.zeroB, hz]⟩
        case measure => simp [intOf]; omega
    · obtain rfl : k = 12 := by omega
      have hs : Cmp.sgn neg P = if Cmp.zeroB P 12 = true then 0 else if neg = true then -1 else 1 := rfl
      have HS := (show Hid (Cmp.sgn neg P = if Cmp.zeroB P 12 = true then 0 else if neg = true then -1 else 1) from hs)
      clear hs
      have hB : Below w.heap.size w (w.alloc (.cells (arr12 P) 32)) := (Below.refl _ _).alloc (Nat.le_refl _) _
      cases hz : Cmp.zeroB P 12 with
      | true =>
        go_wp2
        go_ret
        exact ⟨by rw [HS.out, hz]; rfl, hB, by simp⟩
      | false =>
        cases neg with
        | true =>
          go_wp2
          go_ret
          exact ⟨by rw [HS.out, hz]; rfl, hB, by simp⟩
        | false =>
          go_wp2
          go_ret
          exact ⟨by rw [HS.out, hz]; rfl, hB, by simp⟩

theorem alloc32 : ∀ w : World, (Instr.alloc 32 true (.tuple #[])).run Try.prog w = .ok (.pointer (some ⟨w.heap.size, 0, none⟩)) (w.alloc (.cells (arr12 zero12) 32)) := fun w => by kernel_rfl

set_option maxHeartbeats 400000 in
theorem pad_any (a : Option Addr) (n c b off : Nat) (X : Nat → Nat) (w : World) (hn : n ≤ 12) (hv : View w a n b off X) :
    Calls Try.prog 12 #[.slice a n c] w fun e w' => e = .returned (.agg (arr12 (Cmp.pad n X))) ∧ Below w.heap.size w w' := by
  have n12 : (n : Int) ≤ 12 := by omega
  have hal := alloc32
  go_enter Try.func12, Try.ntmps12
  go_wp2
  clear hal
  go_loopw [4] (fun i wr => ∃ k : Nat, k ≤ n ∧ i = .int .i64 k ∧ Below w.heap.size w wr ∧ Hid (wr.heap[w.heap.size]? = some (.cells (arr12 zero12) 32 (0, 0))) ∧ wr.rowIs (w.heap.size + 1) 32 12 (wordRow (Cmp.pad k X)))
    (fun i _ => n - (intOf i).toNat)
  case atStart =>
    refine ⟨0, Nat.zero_le _, rfl, ((Below.refl _ _).alloc (Nat.le_refl _) _).alloc (by simp) _, heap_alloc2_old w _ _, (row12_of (w := (w.alloc (.cells (arr12 zero12) 32)).alloc (.cells (arr12 zero12) 32)) (b := w.heap.size + 1) zero12 (heap_alloc2_new w _ _)).congr fun i _ => ?_⟩
    simp [wordRow, zero12, Cmp.pad]
  case round =>
    obtain ⟨k, hk, rfl, hb, HZ, hr⟩ := hrel
    by_cases hlt : k < n
    · obtain rfl := hv.1 (by omega)
      have hlt1 : (k : Int) < (n : Int) := by omega
      have hlt2 : (k : Int) < 12 := by omega
      have c0 : wr.cell? ⟨b, off + k, none⟩ = some (.int .u64 ((X k : Nat) : Int)) := (hb.cell (p := ⟨b, off + k, none⟩) (World.block_lt_of_cell? _ _ (hv.2 k hlt))).trans (hv.2 k hlt)
      have c1 : wr.cell? ⟨w.heap.size + 1, k, none⟩ = some (.int .u64 0) := by rw [hr.cell (by omega)]; simp [wordRow, Cmp.pad]
      have f1 : wr.frozen? ⟨w.heap.size + 1, k, none⟩ = false := hr.frozen k
      go_wp2
      go_roundw
      case rel =>
        refine ⟨k + 1, by omega, by go_num, hb.setCell (by simp) _, (Below.heap_setCell _ _ _ _ (by simp)).trans HZ.out, (hr.set k _).congr fun j hj => ?_⟩
        by_cases e : j = k
        · subst e; simp [wordRow, Cmp.pad]
        · rw [if_neg e]; simp only [wordRow, Cmp.pad, lt_succ_of_ne e]
      case measure => simp [intOf]; omega
    · have hkn : k = n := by omega
      subst hkn
      have HR : Hid (wr.heap[w.heap.size + 1]? = some (.cells (arr12 (Cmp.pad k X)) 32 (0, 0))) := row12_to _ hr
      have h1 : ¬ (k : Int) < (k : Int) := by omega
      go_wp2_with (first
        | (refine wpList_load_row rfl 32 (.tmp 3) rfl (w.heap.size + 1) rfl 32 _ (0, 0) _ HR.out Try.underlying32 rfl (info32 _) ?_)
        | (refine wpList_store_row rfl 32 (.tmp 2) (.tmp 21) rfl w.heap.size rfl (arr12 (Cmp.pad k X)) rfl (arr12 zero12) 32 HZ.out (info32 _) rfl (one12 _) w.heap.size w hb (Nat.le_refl _) ?_; intro w2 hg2 hb2 _))
      exact bodyPost_ret (v := .agg (arr12 (Cmp.pad k X))) (results_cell_row Try.results12 _ _ w.heap.size 32 _ (0, 0) _ rfl hg2.out Try.underlying32 rfl (info32 _)) rfl ⟨rfl, hb2⟩
end Go.Proofs.Qxb6003719a
