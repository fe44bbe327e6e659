/-
  THE LAW FnPercentileNearestRankByCounts, WALKED.
-/
import Derived.Test.Qxb6617156aPct
import Derived.OpenShut
import Derived.ProofKit
import Derived.Below
import Derived.Deep.RegionHeld
namespace Go.Proofs.Qxb6617156a.fnPercentileNearestRankByCounts
open Go.ChangeShapes Go.WideShapes Go.ChangeAt Go.RowKit
open Go.Proofs.Qxb6617156a.pct Go.Proofs.Qxb6617156a.plain
set_option linter.unusedVariables false

/-- WHAT THE WALK IS TOLD OF A SLICE OF INTEGERS THAT CAME IN. -/
def IsRow (k : IntKind) (w : World) (a : Option Addr) (len cap : Nat) (zs : List Int) : Prop :=
  (a = none ∧ len = 0 ∧ cap = 0 ∧ zs = []) ∨
  ∃ x, a = some x ∧ len ≤ cap ∧ cap ≤ maxLen ∧ zs.length = cap ∧ (∀ i, i < zs.length → w.cell? (x.add i) = some (.int k (zs.getD i 0))) ∧ ∀ n ∈ zs, (Lit.int k n).wf = true

/-- Too long: the law passes by. -/
theorem walk_long (a : Option Addr) (len cap : Nat) (p : Int) (w : World) (h : 131072 < len) :
    Calls Try.prog 3 #[.slice a len cap, .int .i64 p] w fun e w' => e = .returned (.bool true) ∧ Below w.heap.size w w' := by
  by_cases h2 : 1048576 < len
  · go_enter Try.func3, Try.ntmps3
    go_wp2_with (go_at_call 5; refine (bytes5_no _ _ _ _ _ h2).mono ?_; rintro e w' ⟨rfl, rfl⟩)
    go_ret
    exact ⟨rfl, Below.refl _ _⟩
  · have h3 : len ≤ 1048576 := by omega
    clear h2
    go_enter Try.func3, Try.ntmps3
    go_wp2_with (go_at_call 5; refine (bytes5_yes _ _ _ _ _ h3).mono ?_; rintro e w' ⟨rfl, rfl⟩)
    go_ret
    exact ⟨rfl, Below.refl _ _⟩

/-- nil. -/
theorem walk_nil (p : Int) (w : World) :
    Calls Try.prog 3 #[.slice none 0 0, .int .i64 p] w fun e w' => e = .returned (.bool true) ∧ Below w.heap.size w w' := by
  have hneq : ∀ w, (binOp .neq 22 (.slice none 0 0) (.slice none 0 0)).run Try.prog w = .ok (.bool false) w := fun w => run_neq_slice_nil_any (P := Try.prog) w 22 2 none 0 0 0 0 Try.underlying22
  go_enter Try.func3, Try.ntmps3
  go_wp2_with (first
    | (go_at_call 5; refine (bytes5_yes _ _ _ _ _ (by omega)).mono ?_; rintro e w' ⟨rfl, rfl⟩)
    | (go_at_call 6; refine (zzpct_zero _ _ _ _ (by omega) _).mono ?_; rintro e w' ⟨rfl, rfl⟩))
  go_ret
  exact ⟨rfl, Below.refl _ _⟩

/-- The source of the copy, in the world behind the make. -/
theorem src_cells (x : Addr) (len : Nat) (zs : List Int) (w : World) (hsrc : Hid (∀ i, i < len → w.cell? (x.add i) = some (.int .i64 (zs.getD i 0)))) (HZ : Hid (zs.length = len)) {o : Obj} :
    0 < zs.length → ∀ (j : Nat) (a : Int), zs[j]? = some a → (w.alloc o).cell? (x.add j) = some (Value.int IntKind.i64 a) := by
  intro _ j a hj
  have hjl : j < zs.length := by
    rcases Nat.lt_or_ge j zs.length with h | h
    · exact h
    · rw [List.getElem?_eq_none h] at hj; cases hj
  have h := hsrc.out j (by rw [← HZ.out]; exact hjl)
  rw [List.getD_eq_getElem?_getD, hj] at h
  rw [World.cell?_alloc_some _ _ _ (by rw [h]; rfl)]
  exact h

set_option maxHeartbeats 1600000 in
/-- Not nil, not too long. -/
theorem walk_row (x : Addr) (len cap : Nat) (zs : List Int) (p : Int) (w : World) (hlen : len ≤ 131072) (hz : zs.length = len)
    (hcell : ∀ i, i < len → w.cell? (x.add i) = some (.int .i64 (zs.getD i 0))) :
    Calls Try.prog 3 #[.slice (some x) len cap, .int .i64 p] w fun e w' => e = .returned (.bool true) ∧ Below w.heap.size w w' := by
  have hneq : ∀ w, (binOp .neq 22 (.slice (some x) len cap) (.slice none 0 0)).run Try.prog w = .ok (.bool true) w := fun w => run_neq_slice_nil_any (P := Try.prog) w 22 2 (some x) len cap 0 0 Try.underlying22
  have hmk := run_make_row' (P := Try.prog) 22 2 (.int .i64 0) 8 Try.underlying22 Try.info2 rfl .i64 .i64 len (by omega) (by omega)
  have hsrc : Hid (∀ i, i < len → w.cell? (x.add i) = some (.int .i64 (zs.getD i 0))) := hcell
  have HZ : Hid (zs.length = len) := hz
  clear hcell hz
  have h5 : len ≤ 1048576 := by omega
  by_cases h0 : len < 1
  · go_enter Try.func3, Try.ntmps3
    go_wp2_with (first
      | (go_at_call 5; refine (bytes5_yes _ _ _ _ _ h5).mono ?_; rintro e w' ⟨rfl, rfl⟩)
      | (refine wpList_copy_splice rfl (.tmp 24) (.tmp 25) 22 22 rfl 2 Try.underlying22 Try.size2 (some ⟨w.heap.size, 0, none⟩) (some x) len len len cap rfl rfl w.heap.size 0 (madeCells #[.int .i64 0] len).toList 2 (by simpa using heap_alloc_new w _) (zs.map (Value.int .i64)) (by simp [HZ.out]) ?h1 ?h2 (ints_oneCell _ _) w.heap.size w ((Below.refl _ _).alloc (Nat.le_refl _) _) (Nat.le_refl _) ?_))
    case h1 => exact src_cells x len zs w hsrc HZ
    case h2 => simp [HZ.out, size_madeCells]
    intro w2 HG2 hB2
    clear hsrc HG2
    go_wp2_with (go_at_call 6; refine (zzpct_zero _ _ _ _ h0 _).mono ?_; rintro e w' ⟨rfl, rfl⟩)
    go_ret
    exact ⟨rfl, hB2⟩
  · by_cases hp : p < 1
    · have hp' : p < 1 := hp
      go_enter Try.func3, Try.ntmps3
      go_wp2_with (first
        | (go_at_call 5; refine (bytes5_yes _ _ _ _ _ h5).mono ?_; rintro e w' ⟨rfl, rfl⟩)
        | (refine wpList_copy_splice rfl (.tmp 24) (.tmp 25) 22 22 rfl 2 Try.underlying22 Try.size2 (some ⟨w.heap.size, 0, none⟩) (some x) len len len cap rfl rfl w.heap.size 0 (madeCells #[.int .i64 0] len).toList 2 (by simpa using heap_alloc_new w _) (zs.map (Value.int .i64)) (by simp [HZ.out]) ?h1 ?h2 (ints_oneCell _ _) w.heap.size w ((Below.refl _ _).alloc (Nat.le_refl _) _) (Nat.le_refl _) ?_))
      case h1 => exact src_cells x len zs w hsrc HZ
      case h2 => simp [HZ.out, size_madeCells]
      intro w2 HG2 hB2
      clear hsrc HG2
      go_wp2
      go_ret
      exact ⟨rfl, hB2⟩
    · by_cases hp2 : 100 < p
      · go_enter Try.func3, Try.ntmps3
        go_wp2_with (first
          | (go_at_call 5; refine (bytes5_yes _ _ _ _ _ h5).mono ?_; rintro e w' ⟨rfl, rfl⟩)
          | (refine wpList_copy_splice rfl (.tmp 24) (.tmp 25) 22 22 rfl 2 Try.underlying22 Try.size2 (some ⟨w.heap.size, 0, none⟩) (some x) len len len cap rfl rfl w.heap.size 0 (madeCells #[.int .i64 0] len).toList 2 (by simpa using heap_alloc_new w _) (zs.map (Value.int .i64)) (by simp [HZ.out]) ?h1 ?h2 (ints_oneCell _ _) w.heap.size w ((Below.refl _ _).alloc (Nat.le_refl _) _) (Nat.le_refl _) ?_))
        case h1 => exact src_cells x len zs w hsrc HZ
        case h2 => simp [HZ.out, size_madeCells]
        intro w2 HG2 hB2
        clear hsrc HG2
        go_wp2
        go_ret
        exact ⟨rfl, hB2⟩
      · go_enter Try.func3, Try.ntmps3
        go_wp2_with (first
          | (go_at_call 5; refine (bytes5_yes _ _ _ _ _ h5).mono ?_; rintro e w' ⟨rfl, rfl⟩)
          | (refine wpList_copy_splice rfl (.tmp 24) (.tmp 25) 22 22 rfl 2 Try.underlying22 Try.size2 (some ⟨w.heap.size, 0, none⟩) (some x) len len len cap rfl rfl w.heap.size 0 (madeCells #[.int .i64 0] len).toList 2 (by simpa using heap_alloc_new w _) (zs.map (Value.int .i64)) (by simp [HZ.out]) ?h1 ?h2 (ints_oneCell _ _) w.heap.size w ((Below.refl _ _).alloc (Nat.le_refl _) _) (Nat.le_refl _) ?_))
        case h1 => exact src_cells x len zs w hsrc HZ
        case h2 => simp [HZ.out, size_madeCells]
        intro w2 HG2 hB2
        have HC : Hid (∀ j, j < len → w2.cell? ⟨w.heap.size, j, none⟩ = some (.int .i64 (zs.getD j 0))) := copied (by simp [size_madeCells]) HZ.out HG2.out
        clear hsrc HG2 hneq hmk
        obtain ⟨Z, hZ⟩ : ∃ Z : Nat → Int, Z = fun j => zs.getD j 0 := ⟨_, rfl⟩
        have HC2 : Hid (∀ j, j < len → w2.cell? ⟨w.heap.size, j, none⟩ = some (.int .i64 (Z j))) := by rw [hZ]; exact HC
        clear HC hZ HZ
        obtain ⟨K, hK, hKl, hK1, hK2⟩ := place p len (by omega) (by omega) (by omega) hlen
        obtain ⟨m1, m2, m3⟩ := mul_bd p len (by omega) (by omega) hlen
        have HK : Hid ((p * (len : Int) + 99) / 100 - 1 = (K : Int)) := hK
        clear hK
        go_wp2
        go_loopw [7] (fun i wr => ∃ k : Nat, 1 ≤ k ∧ k ≤ len ∧ i = .int .i64 k ∧ Hid (∀ j, 1 ≤ j → j < k → Z (j - 1) ≤ Z j) ∧
            Hid (∀ j, j < len → wr.cell? ⟨w.heap.size, j, none⟩ = some (.int .i64 (Z j))) ∧ Below w.heap.size w wr) (fun i _ => len - (intOf i).toNat)
        case atStart => exact ⟨1, by omega, by omega, rfl, fun j _ _ => by omega, HC2, hB2⟩
        case round =>
          clear HC2 hB2
          obtain ⟨k, hk1, hk2, rfl, HS, HC, hb⟩ := hrel
          by_cases hlt : k < len
          · obtain ⟨X, hX⟩ : ∃ X, X = Z (k - 1) := ⟨_, rfl⟩
            obtain ⟨Y, hY⟩ : ∃ Y, Y = Z k := ⟨_, rfl⟩
            have hx : wr.cell? ⟨w.heap.size, k - 1, none⟩ = some (.int .i64 X) := by rw [hX]; exact HC.out _ (by omega)
            have hy : wr.cell? ⟨w.heap.size, k, none⟩ = some (.int .i64 Y) := by rw [hY]; exact HC.out _ hlt
            have HX : Hid (X = Z (k - 1)) := hX
            have HY : Hid (Y = Z k) := hY
            clear hX hY
            by_cases hc : Y < X
            · go_wp2
              go_quiet (fail)
              go_wp2
              go_ret
              exact ⟨rfl, bdN hb⟩
            · go_wp2
              go_quiet (fail)
              go_wp2
              go_roundw
              case rel =>
                refine ⟨k + 1, by omega, by omega, by go_num, ?_, HC, bdN hb⟩
                intro j h1 h2
                by_cases hjk : j < k
                · exact HS.out j h1 hjk
                · obtain rfl : j = k := by omega
                  rw [← HX.out, ← HY.out]; omega
              case measure => simp [intOf]; omega
          · obtain rfl : k = len := by omega
            have hge := cle_ge HS.out hKl
            have hltK := clt_lt HS.out hKl
            clear HS hlt hk1 hk2
            obtain ⟨v, hv⟩ : ∃ v, v = Z K := ⟨_, rfl⟩
            rw [← hv] at hge hltK
            have hcK : wr.cell? ⟨w.heap.size, 0 + K, none⟩ = some (.int .i64 v) := by rw [hv, Nat.zero_add]; exact HC.out _ hKl
            have HV : Hid (v = Z K) := hv
            clear hv
            go_wp2_with (go_at_call 6; refine (zzpct_any w.heap.size 0 k k K p v (by omega) HK hKl m1 (by omega) _ hcK).mono ?_; rintro e w' ⟨rfl, rfl⟩)
            clear hcK
            go_loop [9, 10, 11] (fun a b i => ∃ j : Nat, j ≤ k ∧ i = .int .i64 j ∧ a = .int .i64 (cle Z v j) ∧ b = .int .i64 (clt Z v j)) (fun _ _ i => k - (intOf i).toNat)
            case atStart => exact ⟨0, by omega, rfl, rfl, rfl⟩
            case round =>
              obtain ⟨j, hj, rfl, rfl, rfl⟩ := hrel
              have ha := cle_le Z v j
              have hb' := clt_le Z v j
              by_cases hlt : j < k
              · obtain ⟨X, hX⟩ : ∃ X, X = Z j := ⟨_, rfl⟩
                have hx : wr.cell? ⟨w.heap.size, j, none⟩ = some (.int .i64 X) := by rw [hX]; exact HC.out _ hlt
                have HX : Hid (X = Z j) := hX
                clear hX
                by_cases c1 : X < v
                · go_wp2
                  go_round
                  case rel => exact ⟨j + 1, by omega, by go_num, by rw [cle, ← HX.out, if_pos (by omega)]; go_num, by rw [clt, ← HX.out, if_pos (by omega)]; go_num⟩
                  case measure => simp [intOf]; omega
                · by_cases c2 : X ≤ v
                  · go_wp2
                    go_round
                    case rel => exact ⟨j + 1, by omega, by go_num, by rw [cle, ← HX.out, if_pos (by omega)]; go_num, by rw [clt, ← HX.out, if_neg (by omega)]; go_num⟩
                    case measure => simp [intOf]; omega
                  · go_wp2
                    go_round
                    case rel => exact ⟨j + 1, by omega, by go_num, by rw [cle, ← HX.out, if_neg (by omega)]; go_num, by rw [clt, ← HX.out, if_neg (by omega)]; go_num⟩
                    case measure => simp [intOf]; omega
              · obtain rfl : j = k := by omega
                have f1 : p * (j : Int) ≤ 100 * (cle Z v j : Int) := by omega
                have f2 : 100 * (clt Z v j : Int) < p * (j : Int) := by omega
                go_wp2
                go_ret
                exact ⟨by simp, hb⟩
/-- Every input. -/
theorem walk (a0 : Option Addr) (len0 cap0 : Nat) (z0 : List Int) (a1 : Int) (w : World) (w0 : IsRow .i64 w a0 len0 cap0 z0) (w1 : (Lit.int .i64 a1).wf = true) :
    Calls Try.prog 3 #[.slice a0 len0 cap0, .int .i64 a1] w fun e w' => e = .returned (.bool true) ∧ Below w.heap.size w w' := by
  rcases w0 with ⟨rfl, rfl, rfl, rfl⟩ | ⟨x, rfl, hl, hm, hz, hcell, hwz⟩
  · exact walk_nil a1 w
  · by_cases h : 131072 < len0
    · exact walk_long _ _ _ _ _ h
    · refine walk_row x len0 cap0 (z0.take len0) a1 w (by omega) (by simp; omega) fun i hi => ?_
      rw [hcell i (by omega)]
      simp [List.getD_eq_getElem?_getD, hi]

end Go.Proofs.Qxb6617156a.fnPercentileNearestRankByCounts
