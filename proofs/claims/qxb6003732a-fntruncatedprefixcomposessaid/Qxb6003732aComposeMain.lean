/-
  FnTruncatedPrefixComposes past its early returns.
-/
import Derived.Test.Qxb6003732aExactMain
namespace Go.Proofs.Qxb6003732a
open Go.RowKit

/-- Bit i of X, the most significant first. -/
def bitOf (X : Nat → Nat) (i : Nat) : Nat := X (i / 8) / 2 ^ (7 - i % 8) % 2

/-- zzBitAt. -/
theorem bitAt_any (a : Option Addr) (n c b off i : Nat) (X : Nat → Nat) (w : World) (hX : ∀ i, X i < 256) (hi : i / 8 < n) (hn : n ≤ 2000000) (hv : View .u8 w a n b off (nb X)) :
    Calls Try.prog 11 #[.slice a n c, .int .i64 i] w fun e w' => e = .returned (.int .u8 ((bitOf X i : Nat) : Int)) ∧ w = w' := by
  obtain rfl := hv.1 (by omega)
  have g0 : w.cell? ⟨b, off + i / 8, none⟩ = some (.int .u8 ((X (i / 8) : Nat) : Int)) := hv.2 (i / 8) hi
  have h1 : (i : Int) / 8 < (n : Int) := by omega
  have h2 : (0 : Int) ≤ (i : Int) := by omega
  have h3 : (i : Int) ≤ 16000000 := by omega
  have HB : Hid (bits .and .u8 (((X (i / 8) : Nat) : Int) / 2 ^ (7 - i % 8)) 1 = ((bitOf X i : Nat) : Int)) := Tr.bit_of (7 - i % 8) (X (i / 8)) (hX _)
  go_enter Try.func11, Try.ntmps11
  go_wp2
  go_ret
  exact ⟨by rw [← HB.out]; rfl, rfl⟩

/-- A Prefix in a variable of its own. -/
def IsPref (w : World) (d : Nat) (af : Option Addr) (n0 cf : Nat) (a : Option Addr) (m c l : Nat) : Prop := w.heap[d]? = some (.cells #[.slice af n0 cf, .slice a m c, .int .i64 ((l : Nat) : Int)] 26 (0, 0))
section
variable {w : World} {d : Nat} {af : Option Addr} {n0 cf : Nat} {a : Option Addr} {m c l : Nat}
theorem IsPref.c0 (h : IsPref w d af n0 cf a m c l) : w.cell? ⟨d, 0, none⟩ = some (.slice af n0 cf) := by rw [cell_of_row _ _ _ _ _ _ h]; rfl
theorem IsPref.c1 (h : IsPref w d af n0 cf a m c l) : w.cell? ⟨d, 1, none⟩ = some (.slice a m c) := by rw [cell_of_row _ _ _ _ _ _ h]; rfl
theorem IsPref.c2 (h : IsPref w d af n0 cf a m c l) : w.cell? ⟨d, 2, none⟩ = some (.int .i64 ((l : Nat) : Int)) := by rw [cell_of_row _ _ _ _ _ _ h]; rfl
theorem IsPref.later (h : IsPref w d af n0 cf a m c l) {w' : World} (hb : Below w.heap.size w w') : IsPref w' d af n0 cf a m c l := (hb.block d (lt_of_block h)).trans h
end

theorem trunc_lt {X : Nat → Nat} (hX : ∀ i, X i < 256) (l i : Nat) : Tr.truncAt l X i < 256 := Nat.lt_of_le_of_lt (Tr.trunc_le l X i) (hX i)

set_option maxHeartbeats 4000000 in
set_option maxRecDepth 100000 in
theorem composeMain (a0 a1 : Option Addr) (n0 c0 n c b0 off0 b off l s m ms : Nat) (F : Nat → Int) (X : Nat → Nat) (w : World) (hv0 : View .u8 w a0 n0 b0 off0 F) (hv : View .u8 w a1 n b off (nb X)) (hX : ∀ i, X i < 256) (hnm : n0 + n ≤ 65536) (hln : l ≤ n * 8) (hsl : s ≤ l) (hm : Hid (m = (l + 7) / 8)) (hms : Hid (ms = (s + 7) / 8)) :
    Calls Try.prog 3 #[.slice a0 n0 c0, .slice a1 n c, .int .i64 l, .int .i64 s] w fun e w' => e = .returned (.bool true) ∧ Below w.heap.size w w' := by
  have c7 : ∀ w, Calls Try.prog 7 #[.slice a0 n0 c0, .slice a1 n c, .int .i64 l, .int .i64 s] w fun e w' => e = .returned (.bool true) ∧ w = w' := fun w => by
    go_enter Try.func7, Try.ntmps7
    go_wp2
    go_ret
    exact ⟨rfl, rfl⟩
  have hnm' : ¬ (65536 : Int) < (n0 : Int) + (n : Int) := by omega
  have t1 : ¬ (l : Int) < 0 := by omega
  have t2 : ¬ (n : Int) * 8 < (l : Int) := by omega
  have t3 : ¬ (s : Int) < 0 := by omega
  have t4 : ¬ (l : Int) < (s : Int) := by omega
  have hmn : m ≤ n := by have := hm.out; omega
  have hmsm : ms ≤ m := by have := hm.out; have := hms.out; omega
  have hmsn : ms ≤ n := by omega
  have hmI : ((m : Int) != ((l : Int) + 7) / 8) = false := by
    rw [bne_eq_false_iff_eq]; have := hm.out; omega
  have hY : ∀ i, Tr.truncAt l X i < 256 := trunc_lt hX l
  go_enter Try.func3, Try.ntmps3
  go_wp2_with fail
  refine (c7 _).mono ?_
  rintro e w' ⟨rfl, rfl⟩
  clear c7
  go_wp2_with fail
  refine (cloneBytes_any a0 n0 c0 b0 off0 F _ (by omega) hv0).mono ?_
  rintro e w1 ⟨af, cf, rfl, _, _, hb1, _⟩
  have hv1 := hv.later hb1 (Nat.le_refl _)
  go_wp2_with fail
  refine (cloneBytes_any a1 n c b off (nb X) _ (by omega) hv1).mono ?_
  rintro e w2 ⟨ax, cx, rfl, hcx, hcx2, hb2, hv2⟩
  have hB2 : Below w.heap.size w w2 := hb1.trans (hb2.mono hb1.size)
  clear hb1 hb2 hv hv0 hv1
  go_wp2_with fail
  refine (zzTrunc_any af n0 cf ax n cx w1.heap.size 0 l m X _ (by omega) hcx (by omega) hm hmn (by omega) hX hv2).mono ?_
  rintro e w4 ⟨a4, c4, g4, rfl, hc4, hc4x, _, hb4, hp4⟩
  have hx4 := hv2.later hb4 (Nat.le_refl _)
  have hB4 : Below w.heap.size w w4 := hB2.trans (hb4.mono hB2.size)
  clear hb4 hv2 hB2
  have hal : ∀ o, Below w4.heap.size w4 (w4.alloc o) := fun o => (Below.refl _ _).alloc (Nat.le_refl _) _
  have hx5 : ∀ o, View .u8 (w4.alloc o) ax n w1.heap.size 0 (nb X) := fun o => hx4.later (hal o) (Nat.le_refl _)
  have hp5 : ∀ o, View .u8 (w4.alloc o) a4 m g4 0 (nb (Tr.truncAt l X)) := fun o => hp4.later (hal o) (Nat.le_refl _)
  have hB5 : ∀ o, Below w.heap.size w (w4.alloc o) := fun o => hB4.trans ((hal o).mono hB4.size)
  have hI5 : Hid (IsPref (w4.alloc (.cells #[.slice af n0 cf, .slice a4 m c4, .int .i64 ((l : Nat) : Int)] 26)) w4.heap.size af n0 cf a4 m c4 l) := heap_alloc_new w4 _
  clear hx4 hp4 hB4 hal
  go_wp2_with fail
  have hx6 := hx5 (.cells #[.slice af n0 cf, .slice a4 m c4, .int .i64 ((l : Nat) : Int)] 26)
  have hp6 := hp5 (.cells #[.slice af n0 cf, .slice a4 m c4, .int .i64 ((l : Nat) : Int)] 26)
  have hB6 := hB5 (.cells #[.slice af n0 cf, .slice a4 m c4, .int .i64 ((l : Nat) : Int)] 26)
  clear hx5 hp5 hB5
  generalize w4.alloc (.cells #[.slice af n0 cf, .slice a4 m c4, .int .i64 ((l : Nat) : Int)] 26) = w6 at *
  refine (zzExact_any af n0 cf a4 m c4 g4 0 (l : Int) (Tr.truncAt l X) _ (by omega) (by omega) (by omega) hY hp6).mono ?_
  rintro e w7 ⟨rfl, hb7⟩
  rw [show exactOf (l : Int) m (Tr.truncAt l X) = true from (exactOf_pos l m _ hm.out).trans (Tr.exact_trunc l X)]
  have hx7 := hx6.later hb7 (Nat.le_refl _)
  have hp7 := hp6.later hb7 (Nat.le_refl _)
  have hI7 := hI5.out.later hb7
  have hB7 : Below w.heap.size w w7 := hB6.trans (hb7.mono hB6.size)
  clear hx6 hp6 hI5 hB6 hb7
  have k1 := hI7.c1
  go_wp2
  go_loop [10] (fun i => ∃ k : Nat, k ≤ l ∧ i = .int .i64 k) (fun i => l - (intOf i).toNat)
  case atStart => exact ⟨0, Nat.zero_le _, rfl⟩
  case round =>
    obtain ⟨k, hk, rfl⟩ := hrel
    by_cases hlt : k < l
    · have hk1 : (k : Int) < (l : Int) := by omega
      have hkm : k / 8 < m := by have := hm.out; omega
      have HB : Hid (bitOf (Tr.truncAt l X) k = bitOf X k) := Tr.trunc_bit l X k hlt
      go_wp2_with fail
      refine (bitAt_any a4 m c4 g4 0 k (Tr.truncAt l X) _ hY hkm (by omega) hp7).mono ?_
      rintro e w' ⟨rfl, rfl⟩
      rw [HB.out]
      go_wp2_with fail
      refine (bitAt_any ax n cx w1.heap.size 0 k X _ hX (by omega) (by omega) hx7).mono ?_
      rintro e w' ⟨rfl, rfl⟩
      clear HB
      go_wp2
      go_round
      case rel => exact ⟨k + 1, by omega, by go_num⟩
      case measure => simp [intOf]; omega
    · have hge : ¬ (k : Int) < (l : Int) := by omega
      go_wp2_with fail
      refine (zzTrunc_any af n0 cf a4 m c4 g4 0 l m (Tr.truncAt l X) _ (by omega) hc4 hc4x hm (Nat.le_refl _) (by omega) hY hp7).mono ?_
      rintro e w8 ⟨a8, c8, g8, rfl, hc8, hc8x, _, hb8, hq8⟩
      have hx8 := hx7.later hb8 (Nat.le_refl _)
      have hp8 := hp7.later hb8 (Nat.le_refl _)
      have hI8 := hI7.later hb8
      have hB8 : Below w.heap.size w w8 := hB7.trans (hb8.mono hB7.size)
      clear hx7 hp7 hI7 hB7 hb8 k1
      have hal : ∀ o, Below w8.heap.size w8 (w8.alloc o) := fun o => (Below.refl _ _).alloc (Nat.le_refl _) _
      have hx9 : ∀ o, View .u8 (w8.alloc o) ax n w1.heap.size 0 (nb X) := fun o => hx8.later (hal o) (Nat.le_refl _)
      have hp9 : ∀ o, View .u8 (w8.alloc o) a4 m g4 0 (nb (Tr.truncAt l X)) := fun o => hp8.later (hal o) (Nat.le_refl _)
      have hq9 : ∀ o, View .u8 (w8.alloc o) a8 m g8 0 (nb (Tr.truncAt l (Tr.truncAt l X))) := fun o => hq8.later (hal o) (Nat.le_refl _)
      have hI9 : ∀ o, IsPref (w8.alloc o) w4.heap.size af n0 cf a4 m c4 l := fun o => hI8.later (hal o)
      have hB9 : ∀ o, Below w.heap.size w (w8.alloc o) := fun o => hB8.trans ((hal o).mono hB8.size)
      have k9 : ∀ o, (w8.alloc o).cell? ⟨w4.heap.size, 1, none⟩ = some (.slice a4 m c4) := fun o => (hI9 o).c1
      have HQ : Hid (∀ i, i < m → nb (Tr.truncAt l (Tr.truncAt l X)) i = nb (Tr.truncAt l X) i) := fun i _ => nb_eq.2 (Tr.trunc_again l X i)
      clear hx8 hp8 hq8 hI8 hB8 hal
      go_wp2_with fail
      refine (equal_as a8 a4 m c8 c4 g8 0 g4 0 _ _ true _ (by omega) (hq9 _) (hp9 _) ⟨fun _ => HQ.out, fun _ => rfl⟩).mono ?_
      rintro e w10 ⟨rfl, hb10, _⟩
      have hx10 := (hx9 _).later hb10 (Nat.le_refl _)
      have hp10 := (hp9 _).later hb10 (Nat.le_refl _)
      have hI10 := (hI9 _).later hb10
      have hB10 : Below w.heap.size w w10 := (hB9 _).trans (hb10.mono (hB9 _).size)
      have k10 := hI10.c1
      clear hx9 hp9 hq9 hI9 hB9 k9 HQ hb10 hmI
      go_wp2_with fail
      refine (zzTrunc_any af n0 cf a4 m c4 g4 0 s ms (Tr.truncAt l X) _ (by omega) hc4 hc4x hms hmsm (by omega) hY hp10).mono ?_
      rintro e w11 ⟨a11, c11, g11, rfl, hc11, hc11x, _, hb11, hq11⟩
      have hx11 := hx10.later hb11 (Nat.le_refl _)
      have hB11 : Below w.heap.size w w11 := hB10.trans (hb11.mono hB10.size)
      clear hx10 hp10 hI10 hB10 hb11 k10
      have hal : ∀ o, Below w11.heap.size w11 (w11.alloc o) := fun o => (Below.refl _ _).alloc (Nat.le_refl _) _
      have hx12 : ∀ o, View .u8 (w11.alloc o) ax n w1.heap.size 0 (nb X) := fun o => hx11.later (hal o) (Nat.le_refl _)
      have hq12 : ∀ o, View .u8 (w11.alloc o) a11 ms g11 0 (nb (Tr.truncAt s (Tr.truncAt l X))) := fun o => hq11.later (hal o) (Nat.le_refl _)
      have hB12 : ∀ o, Below w.heap.size w (w11.alloc o) := fun o => hB11.trans ((hal o).mono hB11.size)
      have hI12 : Hid (IsPref (w11.alloc (.cells #[.slice af n0 cf, .slice a11 ms c11, .int .i64 ((s : Nat) : Int)] 26)) w11.heap.size af n0 cf a11 ms c11 s) := heap_alloc_new w11 _
      clear hx11 hq11 hB11 hal
      go_wp2_with fail
      have hx13 := hx12 (.cells #[.slice af n0 cf, .slice a11 ms c11, .int .i64 ((s : Nat) : Int)] 26)
      have hq13 := hq12 (.cells #[.slice af n0 cf, .slice a11 ms c11, .int .i64 ((s : Nat) : Int)] 26)
      have hB13 := hB12 (.cells #[.slice af n0 cf, .slice a11 ms c11, .int .i64 ((s : Nat) : Int)] 26)
      clear hx12 hq12 hB12
      generalize w11.alloc (.cells #[.slice af n0 cf, .slice a11 ms c11, .int .i64 ((s : Nat) : Int)] 26) = w13 at *
      refine (zzTrunc_any af n0 cf ax n cx w1.heap.size 0 s ms X _ (by omega) hcx (by omega) hms hmsn (by omega) hX hx13).mono ?_
      rintro e w14 ⟨a14, c14, g14, rfl, _, _, _, hb14, hr14⟩
      have hq14 := hq13.later hb14 (Nat.le_refl _)
      have hI14 := hI12.out.later hb14
      have hB14 : Below w.heap.size w w14 := hB13.trans (hb14.mono hB13.size)
      clear hx13 hq13 hI12 hB13 hb14
      have hal : ∀ o, Below w14.heap.size w14 (w14.alloc o) := fun o => (Below.refl _ _).alloc (Nat.le_refl _) _
      have hq15 : ∀ o, View .u8 (w14.alloc o) a11 ms g11 0 (nb (Tr.truncAt s (Tr.truncAt l X))) := fun o => hq14.later (hal o) (Nat.le_refl _)
      have hr15 : ∀ o, View .u8 (w14.alloc o) a14 ms g14 0 (nb (Tr.truncAt s X)) := fun o => hr14.later (hal o) (Nat.le_refl _)
      have hB15 : ∀ o, Below w.heap.size w (w14.alloc o) := fun o => hB14.trans ((hal o).mono hB14.size)
      have k15 : ∀ o, (w14.alloc o).cell? ⟨w11.heap.size, 1, none⟩ = some (.slice a11 ms c11) := fun o => (hI14.later (hal o)).c1
      have k16 : ∀ o, (w14.alloc o).cell? ⟨w11.heap.size, 2, none⟩ = some (.int .i64 ((s : Nat) : Int)) := fun o => (hI14.later (hal o)).c2
      have HQ : Hid (∀ i, i < ms → nb (Tr.truncAt s (Tr.truncAt l X)) i = nb (Tr.truncAt s X) i) := fun i hi => nb_eq.2 (Tr.trunc_short l s hsl X i (by have := hms.out; omega))
      clear hq14 hr14 hI14 hB14 hal
      go_wp2_with fail
      refine (equal_as a11 a14 ms c11 c14 g11 0 g14 0 _ _ true _ (by omega) (hq15 _) (hr15 _) ⟨fun _ => HQ.out, fun _ => rfl⟩).mono ?_
      rintro e w16 ⟨rfl, hb16, _⟩
      have hB16 : Below w.heap.size w w16 := (hB15 _).trans (hb16.mono (hB15 _).size)
      clear hq15 hr15 hB15 k15 k16 HQ hb16
      go_wp2
      go_ret
      exact ⟨rfl, hB16⟩
end Go.Proofs.Qxb6003732a
