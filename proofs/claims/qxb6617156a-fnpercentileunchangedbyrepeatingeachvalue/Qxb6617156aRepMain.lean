/-
  THE LAW FnPercentileUnchangedByRepeatingEachValue, WALKED: the way through both loops.
-/
import Derived.Test.Qxb6617156aRepWalk
namespace Go.Proofs.Qxb6617156a.fnPercentileUnchangedByRepeatingEachValue
open Go.ChangeShapes Go.WideShapes Go.ChangeAt Go.RowKit
open Go.Proofs.Qxb6617156a.pct Go.Proofs.Qxb6617156a.plain
set_option linter.unusedVariables false

set_option maxHeartbeats 3200000 in
theorem walk_main (x : Addr) (len cap Q : Nat) (zs : List Int) (p : Int) (w : World) (hlen : len ≤ 131072) (hz : zs.length = len) (hQ1 : 1 ≤ Q) (hQ2 : Q ≤ 65536) (h0 : 1 ≤ len) (hp1 : 1 ≤ p) (hp2 : p ≤ 100)
    (hk : (Q : Int) ≤ 131072 / (len : Int)) (hcell : ∀ i, i < len → w.cell? (x.add i) = some (.int .i64 (zs.getD i 0))) :
    Calls Try.prog 4 #[.slice (some x) len cap, .int .i64 p, .int .i64 Q] w fun e w' => e = .returned (.bool true) ∧ Below w.heap.size w w' := by
  have hneq : ∀ w, (binOp .neq 22 (.slice (some x) len cap) (.slice none 0 0)).run Try.prog w = .ok (.bool true) w := fun w => run_neq_slice_nil_any (P := Try.prog) w 22 2 (some x) len cap 0 0 Try.underlying22
  have hmk := run_make_row' (P := Try.prog) 22 2 (.int .i64 0) 8 Try.underlying22 Try.info2 rfl .i64 .i64 len (by omega) (by omega)
  have hsrc : Hid (∀ i, i < len → w.cell? (x.add i) = some (.int .i64 (zs.getD i 0))) := hcell
  have HZ : Hid (zs.length = len) := hz
  clear hcell hz
  have h5 : len ≤ 1048576 := by omega
  obtain ⟨N, hN⟩ : ∃ N, N = len * Q := ⟨_, rfl⟩
  have hN1 : N ≤ 131072 := by rw [hN]; exact mul_le Q len hk
  have hNi : (len : Int) * (Q : Int) = (N : Int) := by rw [hN]; simp
  have HN : Hid (N = len * Q) := hN
  clear hN
  obtain ⟨i0, hi, hz0, hz1, hz2⟩ := info_parts Try.info2
  obtain ⟨Z, hZ⟩ : ∃ Z : Nat → Int, Z = fun j => zs.getD j 0 := ⟨_, rfl⟩
  have HZZ : Hid (Z = fun j => zs.getD j 0) := hZ
  clear hZ
  go_enter Try.func4, Try.ntmps4
  go_wp2_with (first
    | (go_at_call 7; refine (bytes7_yes _ _ _ _ _ _ h5).mono ?_; rintro e w' ⟨rfl, rfl⟩)
    | (refine wpList_copy_splice rfl (.tmp 36) (.tmp 37) 22 22 rfl 2 Try.underlying22 Try.size2 (some ⟨w.heap.size, 0, none⟩) (some x) len len len cap rfl rfl w.heap.size 0 (madeCells #[.int .i64 0] len).toList 2 (by simpa using heap_alloc_new w _) (zs.map (Value.int .i64)) (by simp [HZ.out]) ?_ ?_ (ints_oneCell _ _) w.heap.size w ((Below.refl _ _).alloc (Nat.le_refl _) _) (Nat.le_refl _) ?_))
  · exact src_cells x len zs w hsrc HZ
  · simp [HZ.out, size_madeCells]
  intro w2 HG2 hB2
  have HC2 : Hid (∀ j, j < len → w2.cell? ⟨w.heap.size, j, none⟩ = some (.int .i64 (Z j))) := by rw [HZZ.out]; exact copied (by simp [size_madeCells]) HZ.out HG2.out
  have hBlt : w.heap.size < w2.heap.size := lt_of_heap HG2.out
  have hBw : w.heap.size < w2.heap.size := hBlt
  clear hsrc HG2 hneq hmk HZ HZZ
  go_wp2_with (first
    | (at_make; refine wpList_make_own _ rfl _ _ 22 rfl (w.heap.size + 1) 2 i0 (.int .i64 0) 1 Try.underlying22 hi hz0 hz1 .i64 .i64 _ N rfl rfl (by first | exact hNi | omega) (by rw [hz2]; omega) (by unfold maxLen; omega) (by omega) ?_; intro w3 hown3 hgrow3))
  have hown0 : w3.ownsRow (w.heap.size + 1) 2 1 (.slice (some ⟨w2.heap.size, 0, none⟩) 0 N) 0 (reps Z Q 0) := hown3
  have hbel0 : Below (w.heap.size + 1) w2 w3 := (Below.refl _ _).grown hgrow3 (by omega) (fun k hk => by cases hk)
  obtain ⟨g, hg⟩ : ∃ g, g = w2.heap.size := ⟨_, rfl⟩
  rw [← hg] at hown0 hBlt ⊢
  clear hown3 hgrow3 hg hk
  go_loopw [10, 11] (fun v i wr => ∃ a m : Nat, a ≤ len ∧ i = .int .i64 a ∧ Hid (m = a * Q) ∧ v = .slice (some ⟨g, 0, none⟩) m N ∧ wr.ownsRow (w.heap.size + 1) 2 1 (.slice (some ⟨g, 0, none⟩) m N) m (reps Z Q m) ∧ Below (w.heap.size + 1) w2 wr)
    (fun _ i _ => len - (intOf i).toNat)
  case atStart => exact ⟨0, 0, by omega, rfl, (Nat.zero_mul Q).symm, rfl, hown0, hbel0⟩
  case round =>
    clear hown0 hbel0
    obtain ⟨a, m, ha, rfl, HM, rfl, hown, hbel⟩ := hrel
    by_cases hlt : a < len
    · obtain ⟨wo, hwo⟩ : ∃ wo : World, wo = wr := ⟨_, rfl⟩
      subst hwo
      obtain ⟨X, hX⟩ : ∃ X, X = Z a := ⟨_, rfl⟩
      have HX : Hid (X = Z a) := hX
      clear hX
      have HXC : Hid (w2.cell? ⟨w.heap.size, a, none⟩ = some (.int .i64 X)) := by rw [HX.out]; exact HC2.out a hlt
      go_wp2
      go_loopw [10, 12] (fun v i wr => ∃ b m' : Nat, b ≤ Q ∧ i = .int .i64 b ∧ Hid (m' = a * Q + b) ∧ v = .slice (some ⟨g, 0, none⟩) m' N ∧ wr.ownsRow (w.heap.size + 1) 2 1 (.slice (some ⟨g, 0, none⟩) m' N) m' (reps Z Q m') ∧ Below (w.heap.size + 1) w2 wr)
        (fun _ i _ => Q - (intOf i).toNat)
      case atStart => exact ⟨0, m, by omega, rfl, HM, rfl, hown, hbel⟩
      case round =>
        clear hown hbel
        obtain ⟨b, m', hb, rfl, HM', rfl, hown, hbel⟩ := hrel
        by_cases hlt2 : b < Q
        · have hfit : m' + 1 ≤ N := by rw [HM'.out, HN.out]; exact fits a b Q len hlt hlt2
          have hx : wr.cell? ⟨w.heap.size, a, none⟩ = some (.int .i64 X) := (hbel.cell (p := ⟨w.heap.size, a, none⟩) (by simp)).trans HXC.out
          go_wp2_with (at_builtin; refine wpList_append_fits _ rfl (.tmp 78) (.tmp 83) 22 rfl (w.heap.size + 1) 2 i0 1 Try.underlying22 hi hz1 g m' N (reps Z Q m') rfl (hown.alloc _) ⟨wr.heap.size, 0, none⟩ 1 1 [.int .i64 X] rfl rfl (cell_one_new _ _ _) (by simp [Value.oneCell']) hfit ?_; intro w4 hown4 hgrow4)
          have hown5 := rep_step HM'.out hlt2 HX.out hown4
          have hbel5 : Below (w.heap.size + 1) w2 w4 := (hbel.alloc (by have := hbel.size; omega) _).grown hgrow4 (by have := hbel.size; simp; omega) (fun k hk => by cases hk; omega)
          clear hown4 hgrow4 hown hbel hx
          go_wp2
          go_roundw
          case rel => exact ⟨b + 1, m' + 1, by omega, by go_num, by rw [HM'.out]; rfl, rfl, hown5, hbel5⟩
          case measure => simp [intOf]; omega
        · obtain rfl : b = Q := by omega
          go_wp2
          go_roundw
          case rel => exact ⟨a + 1, m', by omega, by go_num, by rw [HM'.out]; exact next a b, rfl, hown, hbel⟩
          case measure => simp [intOf]; omega
    · obtain rfl : a = len := by omega
      obtain rfl : m = N := by rw [HM.out, HN.out]
      obtain ⟨K, hK, hKl, hK1, hK2⟩ := place p a hp1 hp2 h0 hlen
      obtain ⟨L, hL, hLl, hL1, hL2⟩ := place p m hp1 hp2 (by rw [HM.out]; exact Nat.mul_pos h0 hQ1) hN1
      obtain ⟨m1, m2, m3⟩ := mul_bd p a hp1 hp2 hlen
      obtain ⟨n1, n2, n3⟩ := mul_bd p m hp1 hp2 hN1
      have hLK : L / Q = K := place_rep p a Q K L hQ1 hK1 hK2 (by rw [← HM.out]; exact hL1) (by rw [← HM.out]; exact hL2)
      obtain ⟨v, hv⟩ : ∃ v, v = Z K := ⟨_, rfl⟩
      have hc1 : wr.cell? ⟨w.heap.size, K, none⟩ = some (.int .i64 v) := by rw [hv]; exact (hbel.cell (p := ⟨w.heap.size, K, none⟩) (by simp)).trans (HC2.out K hKl)
      have hc2 : wr.cell? ⟨g, L, none⟩ = some (.int .i64 v) := by rw [hown.cellAt L (by omega), reps_at Z Q m L hLl, hLK, hv]
      have HK : Hid ((p * (a : Int) + 99) / 100 - 1 = (K : Int)) := hK
      have HL : Hid ((p * (m : Int) + 99) / 100 - 1 = (L : Int)) := hL
      have hend : Below w.heap.size w wr := hB2.trans (hbel.mono (by omega))
      have HL1 : Hid (1 ≤ m) := by rw [HM.out]; exact Nat.mul_pos h0 hQ1
      clear hK hL hLK hv HM hown hbel hlt hL1 hL2 HC2
      go_wp2
      go_loop [13] (fun r => ∃ k : Nat, 1 ≤ k ∧ k ≤ K + 1 ∧ r = .int .i64 k) (fun r => K + 1 - (intOf r).toNat)
      case atStart => exact ⟨1, by omega, by omega, rfl⟩
      case round =>
        obtain ⟨k, hk1, hk2, rfl⟩ := hrel
        by_cases hkK : k ≤ K
        · have f1 : 100 * (k : Int) < p * (a : Int) := by omega
          have f2 : k < a := by omega
          go_wp2
          go_round
          case rel => exact ⟨k + 1, by omega, by omega, by go_num⟩
          case measure => simp [intOf]; omega
        · obtain rfl : k = K + 1 := by omega
          by_cases hl : K + 1 < a
          all_goals
            go_wp2_with (first
              | (go_at_call 6; refine (zzpct_any w.heap.size 0 a a K p v h0 HK hKl m1 (by omega) _ (by rw [Nat.zero_add]; exact hc1)).mono ?_; rintro e w' ⟨rfl, rfl⟩)
              | (go_at_call 6; refine (zzpct_any g 0 m m L p v HL1.out HL hLl n1 (by omega) _ (by rw [Nat.zero_add]; exact hc2)).mono ?_; rintro e w' ⟨rfl, rfl⟩))
            go_ret
            exact ⟨by simp, hend⟩
/-- Every input. -/
theorem walk (a0 : Option Addr) (len0 cap0 : Nat) (z0 : List Int) (a1 : Int) (a2 : Int) (w : World) (w0 : IsRow .i64 w a0 len0 cap0 z0) (w1 : (Lit.int .i64 a1).wf = true) (w2 : (Lit.int .i64 a2).wf = true) :
    Calls Try.prog 4 #[.slice a0 len0 cap0, .int .i64 a1, .int .i64 a2] w fun e w' => e = .returned (.bool true) ∧ Below w.heap.size w w' := by
  rcases w0 with ⟨rfl, rfl, rfl, rfl⟩ | ⟨x, rfl, hl, hm, hz, hcell, hwz⟩
  · by_cases hq : a2 < 1 ∨ 65536 < a2
    · exact walk_k _ _ _ _ _ _ (by omega) hq
    · exact walk_nil a1 a2 w (by omega) (by omega)
  · by_cases h : 131072 < len0
    · exact walk_long _ _ _ _ _ _ h
    by_cases hq : a2 < 1 ∨ 65536 < a2
    · exact walk_k _ _ _ _ _ _ (by omega) hq
    have hcz : ∀ i, i < len0 → w.cell? (x.add i) = some (.int .i64 ((z0.take len0).getD i 0)) := by
      intro i hi
      rw [hcell i (by omega)]
      simp [List.getD_eq_getElem?_getD, hi]
    by_cases ho : len0 < 1 ∨ (¬ len0 < 1 ∧ a1 < 1) ∨ (¬ len0 < 1 ∧ ¬ a1 < 1 ∧ 100 < a1) ∨ (¬ len0 < 1 ∧ ¬ a1 < 1 ∧ ¬ 100 < a1 ∧ 131072 / (len0 : Int) < a2)
    · exact walk_out x len0 cap0 (z0.take len0) a1 a2 w (by omega) (by simp; omega) (by omega) (by omega) hcz ho
    · obtain ⟨Q, rfl⟩ := Int.eq_ofNat_of_zero_le (show 0 ≤ a2 by omega)
      exact walk_main x len0 cap0 Q (z0.take len0) a1 w (by omega) (by simp; omega) (by omega) (by omega) (by omega) (by omega) (by omega) (by omega) hcz

end Go.Proofs.Qxb6617156a.fnPercentileUnchangedByRepeatingEachValue
