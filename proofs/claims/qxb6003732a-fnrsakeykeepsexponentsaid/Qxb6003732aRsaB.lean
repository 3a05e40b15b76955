/-
  The walks of nat.make on a nil nat, nat.norm, nat.setBytes.
-/
import Derived.Test.Qxb6003732aRsaA
import Derived.Laws.MakeOwn
namespace Go.Proofs.Qxb6003732a
open Go.RowKit

theorem info68 : (Try.prog.info? 68).map (fun i => (i.zero, i.size, i.bytes)) = some (some (.int .u64 0), 1, 8) := by kernel_rfl

/-- The row of words. -/
def wordRow (P : Nat → Nat) : Nat → Value := fun i => .int .u64 ((P i : Nat) : Int)

theorem run_make_more (n : Nat) (hn : n ≤ 1000000) (w : World) :
    (Instr.makeSlice 41 (.int .i64 (n : Int)) (.int .i64 ((n : Int) + 4))).run Try.prog w = .ok (.slice (some ⟨w.heap.size, 0, none⟩) n (n + 4)) (w.alloc (.cells (madeCells #[.int .u64 0] (n + 4)) 68)) := by
  obtain ⟨i, hi, hzz⟩ := Option.map_eq_some_iff.1 info68
  simp only [Prod.mk.injEq] at hzz
  obtain ⟨hz, hs, hb⟩ := hzz
  have hr := run_make (P := Try.prog) w 41 68 i _ Try.underlying41 hi hz .i64 .i64 n ((n : Int) + 4) (by omega) (by omega) (by rw [hb]; omega) (by omega)
  rw [show ((n : Int) + 4).toNat = n + 4 by omega] at hr
  simp only [Int.toNat_natCast, hs, Nat.mul_one] at hr
  exact hr

set_option maxHeartbeats 400000 in
theorem make_any (n : Nat) (w : World) (hn : n ≤ 1000000) :
    Calls Try.prog 35 #[.slice none 0 0, .int .i64 n] w fun e w' => ∃ a c, e = .returned (.slice a n c) ∧ n ≤ c ∧ c ≤ 2000000 ∧ Below w.heap.size w w' ∧ (0 < n → a = some ⟨w.heap.size, 0, none⟩ ∧ w'.rowIs w.heap.size 68 c (wordRow fun _ => 0)) := by
  by_cases h0 : n = 0
  · subst h0
    go_enter Try.func35, Try.ntmps35
    go_wp2
    go_ret
    exact ⟨none, 0, rfl, Nat.le_refl _, by omega, Below.refl _ _, fun h => by omega⟩
  by_cases h1 : n = 1
  · subst h1
    have hmk : ∀ w, (Instr.makeSlice 41 (.int .i64 1) (.int .i64 1)).run Try.prog w = .ok (.slice (some ⟨w.heap.size, 0, none⟩) 1 1) (w.alloc (.cells (madeCells #[.int .u64 0] 1) 68)) := run_make_row' (P := Try.prog) 41 68 (.int .u64 0) 8 Try.underlying41 info68 rfl .i64 .i64 1 (by omega) (by omega)
    go_enter Try.func35, Try.ntmps35
    go_wp2
    go_ret
    exact ⟨_, 1, rfl, Nat.le_refl _, by omega, (Below.refl _ _).alloc (Nat.le_refl _) _, fun _ => ⟨rfl, World.rowIs_made w _ 1 68⟩⟩
  · have hmk := run_make_more n hn
    have t0 : ¬ (n : Int) ≤ 0 := by omega
    have t1 : ((n : Int) == 1) = false := beq_eq_false_iff_ne.2 (by omega)
    go_enter Try.func35, Try.ntmps35
    go_wp2
    go_ret
    exact ⟨_, n + 4, rfl, by omega, by omega, (Below.refl _ _).alloc (Nat.le_refl _) _, fun _ => ⟨rfl, World.rowIs_made w _ (n + 4) 68⟩⟩

set_option maxHeartbeats 400000 in
theorem norm_any (a : Option Addr) (n c r : Nat) (P : Nat → Nat) (w : World) (hn : n ≤ 1000000) (hnc : n ≤ c) (hc : c ≤ 2000000) (ha : 0 < n → a = some ⟨r, 0, none⟩) (hr : ∀ i, i < n → w.cell? ⟨r, i, none⟩ = some (.int .u64 ((P i : Nat) : Int))) :
    Calls Try.prog 37 #[.slice a n c] w fun e w' => e = .returned (.slice a (Rsa.trimmed P n) c) ∧ w = w' := by
  go_enter Try.func37, Try.ntmps37
  go_wp2
  go_loop [3] (fun i => ∃ k : Nat, k ≤ n ∧ i = .int .i64 k ∧ Hid (Rsa.trimmed P k = Rsa.trimmed P n)) (fun i => (intOf i).toNat)
  case atStart => exact ⟨n, Nat.le_refl _, rfl, rfl⟩
  case round =>
    obtain ⟨k, hk, rfl, HT⟩ := hrel
    cases k with
    | zero =>
      have E0 : Hid (Rsa.trimmed P n = 0) := HT.out.symm
      clear HT
      go_wp2
      go_ret
      exact ⟨by rw [E0.out]; rfl, rfl⟩
    | succ k =>
      obtain rfl := ha (by omega)
      have c0 := hr k (by omega)
      have k0 : (0 : Int) < (k : Int) + 1 := by omega
      have k1 : (k : Int) < (n : Int) := by omega
      have k2 : (k : Int) + 1 ≤ (c : Int) := by omega
      by_cases hz : P k = 0
      · rw [hz] at c0
        go_wp2
        go_round
        case rel => exact ⟨k, by omega, rfl, by have := HT.out; rw [Rsa.trimmed, if_pos hz] at this; exact this⟩
        case measure => simp [intOf]
      · have hz' : (((P k : Nat) : Int) == 0) = false := beq_eq_false_iff_ne.2 (by omega)
        have E0 : Hid (Rsa.trimmed P n = k + 1) := by
          show _ = _
          rw [← HT.out, Rsa.trimmed, if_neg hz]
        clear HT
        go_wp2
        go_ret
        exact ⟨by rw [E0.out]; rfl, rfl⟩

/-- What setBytes leaves: L words, the least of them P 0. -/
def NatIs (w : World) (v : Value) (P : Nat → Nat) (L : Nat) (B : Nat) : Prop :=
  ∃ a c r, v = .slice a L c ∧ (0 < L → a = some ⟨r, 0, none⟩ ∧ B ≤ r ∧ w.cell? ⟨r, 0, none⟩ = some (.int .u64 ((P 0 : Nat) : Int)))

set_option maxHeartbeats 2000000 in
set_option maxRecDepth 100000 in
theorem setBytes_any (a : Option Addr) (n c b off N : Nat) (X : Nat → Nat) (w : World) (hn : n ≤ 1048576) (hc : n ≤ c) (hc2 : c ≤ 9223372036854775807) (hX : ∀ i, X i < 256) (hN : Hid (N = Rsa.nw n)) (hv : View .u8 w a n b off (nb X)) :
    Calls Try.prog 31 #[.slice none 0 0, .slice a n c] w fun e w' => ∃ v, e = .returned v ∧ Below w.heap.size w w' ∧ NatIs w' v (Rsa.word n X) (Rsa.left n X) w.heap.size := by
  have hN1 : ((n : Int) + 8 - 1) / 8 = (N : Int) := by have := hN.out; unfold Rsa.nw at this; omega
  have hNb : N ≤ 131072 := by have := hN.out; unfold Rsa.nw at this; omega
  go_enter Try.func31, Try.ntmps31
  go_wp2_with fail
  refine (make_any N _ (by omega)).mono ?_
  rintro e w1 ⟨az, cz, rfl, hcz, hcz2, hb1, hz1⟩
  clear hN1
  go_wp2
  go_loopw [5, 6] (fun i k wr => ∃ p j : Nat, p + 8 * j = n ∧ i = .int .i64 p ∧ k = .int .i64 j ∧ Below w.heap.size w wr ∧ (0 < N → wr.rowIs w.heap.size 68 cz (wordRow fun t => if t < j then Rsa.word n X t else 0))) (fun i _ _ => (intOf i).toNat)
  case atStart => exact ⟨n, 0, by omega, rfl, rfl, hb1, fun h => (hz1 h).2.congr fun t _ => by simp [wordRow]⟩
  case round =>
    obtain ⟨p, j, hpj, rfl, rfl, hbr, hzr⟩ := hrel
    have HPJ : Hid (p + 8 * j = n) := hpj
    have hpn : p ≤ n := by omega
    have hjn : 8 * j ≤ n := by omega
    have haz0 : 0 < N → az = some ⟨w.heap.size, 0, none⟩ := fun h => (hz1 h).1
    clear hpj hz1 hb1
    by_cases h8 : 8 ≤ p
    · obtain ⟨p', rfl⟩ : ∃ p', p = p' + 8 := ⟨p - 8, by omega⟩
      have hNp : 0 < N := by have := hN.out; unfold Rsa.nw at this; omega
      have hjN : j < N := by have := hN.out; have := HPJ.out; unfold Rsa.nw at *; omega
      have haz := haz0 hNp
      have hr := hzr hNp
      obtain rfl := hv.1 (by omega)
      subst haz
      have hvr := hv.later hbr (Nat.le_refl _)
      have hcell : ∀ t, t < 8 → wr.cell? ⟨b, off + p' + t, none⟩ = some (.int .u8 ((X (p' + t) : Nat) : Int)) := fun t ht => by
        have := hvr.2 (p' + t) (by omega)
        rwa [← Nat.add_assoc] at this
      have q1 : (8 : Int) ≤ (p' : Int) + 8 := by omega
      have q2 : (p' : Int) + 8 ≤ (c : Int) := by omega
      have q3 : (j : Int) < (N : Int) := by omega
      have q4 : (p' : Int) < (c : Int) := by omega
      go_wp2_with fail
      refine (bigEndianWord_any b (off + p') (c - p') n j p' X _ hX (by have := HPJ.out; omega) hcell).mono ?_
      rintro e w2 ⟨rfl, q, rfl⟩
      have g1 : wr.cell? ⟨w.heap.size, j, none⟩ = some (.int .u64 0) := by rw [hr.cell (by omega)]; simp [wordRow]
      have f1 : wr.frozen? ⟨w.heap.size, j, none⟩ = false := hr.frozen j
      clear hcell hzr haz0
      go_wp2
      go_roundw
      case rel =>
        refine ⟨p', j + 1, by have := HPJ.out; omega, by go_num, by go_num, ?_, fun _ => ?_⟩
        · exact below_drewN (hbr.setCell (Nat.le_refl _) _) _
        · refine (hr.set j _).congr fun t ht => ?_
          by_cases e : t = j
          · subst e; simp [wordRow]
          · rw [if_neg e]; simp only [wordRow, lt_succ_of_ne e]
      case measure => simp [intOf]; omega
    · have q1 : ¬ (8 : Int) ≤ (p : Int) := by omega
      by_cases hp0 : p = 0
      · subst hp0
        have hNj : N = j := by have := hN.out; have := HPJ.out; unfold Rsa.nw at *; omega
        subst hNj
        go_wp2_with fail
        refine (norm_any az N cz w.heap.size (Rsa.word n X) _ (by omega) hcz hcz2 haz0 (fun i hi => by rw [(hzr (by omega)).cell (by omega)]; simp only [wordRow]; rw [if_pos hi])).mono ?_
        rintro e w2 ⟨rfl, rfl⟩
        have hfin : NatIs wr (.slice az (Rsa.trimmed (Rsa.word n X) N) cz) (Rsa.word n X) (Rsa.left n X) w.heap.size := by
          have hle := Rsa.trimmed_le (Rsa.word n X) N
          refine ⟨az, cz, w.heap.size, by unfold Rsa.left; rw [← hN.out], fun h => ?_⟩
          have h0 : 0 < N := by unfold Rsa.left at h; rw [← hN.out] at h; omega
          refine ⟨haz0 h0, Nat.le_refl _, ?_⟩
          rw [(hzr h0).cell (by omega)]; simp only [wordRow]; rw [if_pos h0]
        clear hzr
        go_wp2
        go_ret
        exact ⟨_, rfl, hbr, hfin⟩
      · have hp1 : (0 : Int) < (p : Int) := by omega
        have hNp : 0 < N := by have := hN.out; unfold Rsa.nw at this; omega
        have hNj : N = j + 1 := by have := hN.out; have := HPJ.out; unfold Rsa.nw at *; omega
        have haz := haz0 hNp
        have hr := hzr hNp
        obtain rfl := hv.1 (by omega)
        subst haz
        subst hNj
        have hvr := hv.later hbr (Nat.le_refl _)
        clear hzr haz0
        go_wp2
        go_loop [5, 7, 8] (fun i d s => ∃ t r : Nat, r + t = p ∧ i = .int .i64 r ∧ d = .int .u64 ((Rsa.lsum (fun u => Rsa.back n X (8 * j + u)) t : Nat) : Int) ∧ s = .int .u64 ((8 * t : Nat) : Int)) (fun i _ _ => (intOf i).toNat)
        case atStart => exact ⟨0, p, by omega, rfl, rfl, rfl⟩
        case round =>
          obtain ⟨t, r, hrt, rfl, rfl, rfl⟩ := hrel
          cases r with
          | zero =>
            have ht : t = p := by omega
            subst ht
            have g1 : wr.cell? ⟨w.heap.size, j, none⟩ = some (.int .u64 0) := by rw [hr.cell (by omega)]; simp [wordRow]
            have f1 : wr.frozen? ⟨w.heap.size, j, none⟩ = false := hr.frozen j
            have HW : Hid (Rsa.lsum (fun u => Rsa.back n X (8 * j + u)) t = Rsa.word n X j) := by
              show _ = _
              unfold Rsa.word
              have := Rsa.lsum_more (fun u => Rsa.back n X (8 * j + u)) t (8 - t) (fun i h1 h2 => by
                show Rsa.back n X (8 * j + i) = 0
                unfold Rsa.back; rw [if_neg (by have := HPJ.out; omega)])
              rw [show t + (8 - t) = 8 by omega] at this
              exact this.symm
            have hr2 : (wr.setCell ⟨w.heap.size, j, none⟩ (.int .u64 ((Rsa.word n X j : Nat) : Int))).rowIs w.heap.size 68 cz (wordRow fun t => if t < j + 1 then Rsa.word n X t else 0) := (hr.set j _).congr fun t ht => by
              by_cases e : t = j
              · subst e; simp [wordRow]
              · rw [if_neg e]; simp only [wordRow, lt_succ_of_ne e]
            have hb2 : Below w.heap.size w (wr.setCell ⟨w.heap.size, j, none⟩ (.int .u64 ((Rsa.word n X j : Nat) : Int))) := hbr.setCell (Nat.le_refl _) _
            have hj1 : (j : Int) < (j : Int) + 1 := by omega
            rw [HW.out]
            clear HW
            go_wp2_with fail
            generalize wr.setCell ⟨w.heap.size, j, none⟩ (.int .u64 ((Rsa.word n X j : Nat) : Int)) = w3 at *
            refine (norm_any (some ⟨w.heap.size, 0, none⟩) (j + 1) cz w.heap.size (Rsa.word n X) _ (by omega) hcz hcz2 (fun _ => rfl) (fun i hi => by rw [hr2.cell (by omega)]; simp only [wordRow]; rw [if_pos hi])).mono ?_
            rintro e w2 ⟨rfl, rfl⟩
            have hfin : NatIs w3 (.slice (some ⟨w.heap.size, 0, none⟩) (Rsa.trimmed (Rsa.word n X) (j + 1)) cz) (Rsa.word n X) (Rsa.left n X) w.heap.size := by
              refine ⟨_, cz, w.heap.size, by unfold Rsa.left; rw [← hN.out], fun h => ⟨rfl, Nat.le_refl _, ?_⟩⟩
              rw [hr2.cell (by omega)]; simp only [wordRow]; rw [if_pos (by omega)]
            clear hr2 hr
            go_wp2
            go_ret
            exact ⟨_, rfl, hb2, hfin⟩
          | succ r =>
            have HRT : Hid (r + 1 + t = p) := hrt
            have ht8 : t < 7 := by omega
            have hrp : r < p := by omega
            clear hrt
            have g0 : wr.cell? ⟨b, off + r, none⟩ = some (.int .u8 ((X r : Nat) : Int)) := hvr.2 r (by omega)
            have r1 : (r : Int) < (n : Int) := by omega
            have hxr : ((X r : Nat) : Int) < 256 := by have := hX r; omega
            have HO : Hid (bits .or .u64 ((Rsa.lsum (fun u => Rsa.back n X (8 * j + u)) t : Nat) : Int) (IntKind.u64.wrap (((X r : Nat) : Int) * 2 ^ (8 * t))) = ((Rsa.lsum (fun u => Rsa.back n X (8 * j + u)) (t + 1) : Nat) : Int)) := by
              show _ = _
              rw [Rsa.or_byte t _ (X r) (by omega) (Rsa.lsum_lt _ (fun _ => Rsa.back_lt n X hX _) t) (hX r), Rsa.lsum]
              have e : Rsa.back n X (8 * j + t) = X r := by
                unfold Rsa.back; rw [if_pos (by have := HPJ.out; have := HRT.out; omega)]
                congr 1; have := HPJ.out; have := HRT.out; omega
              rw [e]
            go_wp2
            go_round
            case rel => exact ⟨t + 1, r, by have := HRT.out; omega, rfl, congrArg (Value.int .u64) HO.out, congrArg (Value.int .u64) (by omega)⟩
            case measure => simp [intOf]
end Go.Proofs.Qxb6003732a
